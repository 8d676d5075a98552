/- itoaNonNeg: a number's decimal digits. -/
import Derived.Test.Qxb6616140aDoorApp
namespace Go.Proofs.Qxb6616140aDoor
open Go.RowKit

/-- The digits' bytes, the last first; none for 0; at most so many. -/
def rdigF : Nat → Nat → List Int
  | 0, _ => []
  | k + 1, q => if q = 0 then [] else ((48 + q % 10 : Nat) : Int) :: rdigF k (q / 10)

theorem rdigF_same (k : Nat) : ∀ k' q, q < k → q < k' → rdigF k q = rdigF k' q := by
  induction k with
  | zero => intro k' q h; omega
  | succ k ih =>
    intro k' q h h'
    obtain ⟨j, rfl⟩ : ∃ j, k' = j + 1 := ⟨k' - 1, by omega⟩
    by_cases h0 : q = 0
    · simp only [rdigF, if_pos h0]
    · simp only [rdigF, if_neg h0]
      rw [ih j (q / 10) (by omega) (by omega)]

/-- The digits' bytes, the last first; none for 0. -/
def rdig (q : Nat) : List Int := rdigF (q + 1) q

theorem rdig_zero : rdig 0 = [] := rfl
theorem rdig_pos (q : Nat) (h : 0 < q) : rdig q = ((48 + q % 10 : Nat) : Int) :: rdig (q / 10) := by
  have e : rdig q = ((48 + q % 10 : Nat) : Int) :: rdigF q (q / 10) := by
    show rdigF (q + 1) q = _
    simp only [rdigF, if_neg (show ¬ q = 0 by omega)]
  rw [e, rdigF_same q (q / 10 + 1) (q / 10) (by omega) (by omega)]
  rfl

/-- The decimal text. -/
def dig (n : Nat) : List Int := if n = 0 then [48] else (rdig n).reverse

theorem rdig_len (k q : Nat) (h : q < 10 ^ k) : (rdig q).length ≤ k := by
  induction k generalizing q with
  | zero => have : q = 0 := by simpa using h
            subst this; simp [rdig_zero]
  | succ k ih =>
    by_cases h0 : q = 0
    · subst h0; simp [rdig_zero]
    · rw [rdig_pos q (by omega)]
      have := ih (q / 10) (by rw [Nat.pow_succ] at h; omega)
      simp; omega

theorem rdig_ne (q : Nat) (h : 0 < q) : rdig q ≠ [] := by rw [rdig_pos q h]; simp

theorem Own.base {B : Nat} {w : World} {v : Value} {zs : List Int} (h : Own B w v zs) : ∀ x ∈ v.ownBlock.toList, B ≤ x := by
  intro x hx
  exact (World.ownsRow.lt h x (by simpa using hx)).1

/-- Behind an append to bytes of our own (made since w) nothing of w has turned. -/
theorem Keep.own {w a b : World} {v : Value} {zs : List Int} {o : Obj} (h : Keep [] w a) (hv : Own w.heap.size a v zs) (hk : Keep v.ownBlock.toList (a.alloc o) b) : Keep [] w b :=
  (h.alloc o).trans hk fun x hx => .inr (hv.base x hx)

/-- The cell of a one-byte array just made. -/
theorem new1 (w : World) (x : Int) (ad : Addr) (h : some (⟨w.heap.size, 0, none⟩ : Addr) = some ad) (j : Nat) (hj : j < 1) : (w.alloc (.cells #[.int .u8 x] 5)).cell? (ad.add j) = some (.int .u8 ([x].getD j 0)) := by
  obtain rfl := Option.some.inj h
  obtain rfl : j = 0 := by omega
  rw [WideShapes.add_plain]
  simp

theorem new2 (w : World) (x y : Int) (ad : Addr) (h : some (⟨w.heap.size, 0, none⟩ : Addr) = some ad) (j : Nat) (hj : j < 2) : (w.alloc (.cells #[.int .u8 x, .int .u8 y] 5)).cell? (ad.add j) = some (.int .u8 ([x, y].getD j 0)) := by
  obtain rfl := Option.some.inj h
  rw [WideShapes.add_plain]
  obtain rfl | rfl : j = 0 ∨ j = 1 := by omega
  all_goals simp

set_option maxRecDepth 100000 in
set_option maxHeartbeats 800000 in
theorem itoa (n : Nat) (w : World) (hn : n ≤ 1073741824) :
    Calls Tryd.prog 37 #[.int .i64 n] w fun e w' => ∃ g c, e = .returned (.slice (some ⟨g, 0, none⟩) (dig n).length c) ∧ (∀ j, j < (dig n).length → w'.cell? ⟨g, j, none⟩ = some (.int .u8 ((dig n).getD j 0))) ∧ w.heap.size ≤ g ∧ Keep [] w w' := by
  by_cases h0 : n = 0
  · subst h0
    go_enter Tryd.func37, Tryd.ntmps37
    go_wp2
    go_ret
    refine ⟨w.heap.size, 1, rfl, fun j hj => ?_, Nat.le_refl _, (Keep.refl [] w).alloc _⟩
    obtain rfl : j = 0 := by simp [dig] at hj; omega
    simp [dig]
  · have hd : dig n = (rdig n).reverse := if_neg h0
    rw [hd]
    have HL : Hid ((rdig n).length ≤ 10) := rdig_len 10 n (by omega)
    have HNE : Hid (rdig n ≠ []) := rdig_ne n (by omega)
    clear hd
    have hn0 : ((n : Int) == 0) = false := by simp; omega
    go_enter Tryd.func37, Tryd.ntmps37
    go_wp2
    go_loopg [0, 3] (n + 1) (fun gk s0 s3 wr => ∃ (q : Nat) (ds : List Int), s0 = .int .i64 q ∧ Own w.heap.size wr s3 ds ∧ ds ++ rdig q = rdig n ∧ gk = q + 1 ∧ q ≤ n ∧ Keep [] w wr)
    case atStart => exact ⟨n, [], rfl, Own.nil _ _, rfl, rfl, Nat.le_refl _, Keep.refl _ _⟩
    case round =>
      obtain ⟨q, ds, rfl, hown, hcat, hgk, hq, hk⟩ := hrel
      by_cases hq0 : 0 < q
      · have HC : Hid (ds ++ rdig q = rdig n) := hcat
        have HO : Hid (Own w.heap.size wr u3 ds) := hown
        clear hcat hown
        have hq' : (0 : Int) < (q : Int) := by omega
        have HS : Hid (w.heap.size ≤ wr.heap.size) := hk.size
        have hl : ds.length ≤ 10 := by have h1 := congrArg List.length HC.out; have h2 := HL.out; simp at h1; omega
        go_wp2_with (at_builtin; refine wpList_append_bytes _ rfl (.tmp 12) (.tmp 17) rfl w.heap.size _ ds rfl (HO.out.alloc _) _ 1 1 [48 + (q : Int) % 10] rfl rfl (fun h => by cases h) (fun ad had j hj => new1 wr _ ad had j hj) (by omega) (by have := HS.out; simp; omega) ?_; intro v' w2 hown2 hk2)
        go_roundg (q / 10 + 1)
        case measure => omega
        case rel =>
          refine ⟨q / 10, ds ++ [48 + (q : Int) % 10], by go_num, hown2, ?_, rfl, by omega, hk.own HO.out hk2⟩
          rw [← HC.out, rdig_pos q hq0, List.append_assoc]
          have e : ((48 + q % 10 : Nat) : Int) = 48 + (q : Int) % 10 := by omega
          rw [e]; rfl
      · obtain rfl : q = 0 := by omega
        rw [rdig_zero, List.append_nil] at hcat
        subst hcat
        obtain ⟨g, cap, f, rfl, hg, hrow, hlc, hcm, hf⟩ := hown.row HNE.out
        obtain ⟨w1, rfl⟩ : ∃ w1, w1 = wr := ⟨_, rfl⟩
        have HR : Hid (w1.rowIs g 5 cap f) := hrow
        have HF : Hid (∀ j, j < (rdig n).length → f j = .int .u8 ((rdig n).getD j 0)) := hf
        have HK : Hid (Keep [] w w1) := hk
        have hl0 : 0 < (rdig n).length := List.length_pos_iff.2 HNE.out
        obtain ⟨l, hl⟩ : ∃ l, l = (rdig n).length := ⟨_, rfl⟩
        have HLL : Hid (l = (rdig n).length) := hl
        rw [← hl] at hlc hl0
        have hl10 : l ≤ 10 := by have := HL.out; omega
        rw [← hl]
        clear hrow hf hk hown hl
        have hl1 : (l : Int) - 1 = ((l - 1 : Nat) : Int) := by omega
        go_wp2_with fail
        have hl1' : (0 : Int) ≤ (l : Int) - 1 := by omega
        go_loopg [4, 5, 6] l (fun gk s4 s5 _ wl => ∃ i : Nat, s4 = .int .i64 i ∧ s5 = .int .i64 ((l : Int) - 1 - i) ∧ 2 * i ≤ l ∧ gk = l - i ∧ wl.rowIs g 5 cap (fun j => if j < i ∨ l - 1 - i < j ∧ j < l then f (l - 1 - j) else f j) ∧ Keep [g] w1 wl)
        case atStart =>
          refine ⟨0, rfl, by go_num, by omega, rfl, HR.out.congr fun j hj => ?_, Keep.refl _ _⟩
          rw [if_neg (by omega)]
        case round =>
          obtain ⟨i, rfl, rfl, hi2, hgk2, hrow, hk2⟩ := hrel
          by_cases hlt : (i : Int) < (l : Int) - 1 - i
          · have hi1 : i < cap := by omega
            obtain ⟨j, hj⟩ : ∃ j, j = l - 1 - i := ⟨_, rfl⟩
            have hj' : (l : Int) - 1 - i = (j : Int) := by omega
            have hjc : j < cap := by omega
            have ci := hrow.cell hi1
            have cj := hrow.cell hjc
            simp only [if_neg (show ¬ (i < i ∨ l - 1 - i < i ∧ i < l) by omega)] at ci
            simp only [if_neg (show ¬ (j < i ∨ l - 1 - i < j ∧ j < l) by omega)] at cj
            rw [HF.out i (by have := HLL.out; omega)] at ci
            rw [HF.out j (by have := HLL.out; omega)] at cj
            have zi := hrow.frozen i
            have zj := hrow.frozen j
            have HRow : Hid (wr.rowIs g 5 cap (fun j => if j < i ∨ l - 1 - i < j ∧ j < l then f (l - 1 - j) else f j)) := hrow
            rw [hj'] at hlt ⊢
            have HJ : Hid (j = l - 1 - i) := hj
            have hil : i < l := by omega
            have hjl : j < l := by omega
            obtain ⟨x, hx⟩ : ∃ x, x = (rdig n).getD i 0 := ⟨_, rfl⟩
            obtain ⟨y, hy⟩ : ∃ y, y = (rdig n).getD j 0 := ⟨_, rfl⟩
            rw [← hx] at ci
            rw [← hy] at cj
            have HX : Hid (x = (rdig n).getD i 0 ∧ y = (rdig n).getD j 0) := ⟨hx, hy⟩
            clear hrow hj hj' hx hy hi2
            have hij : ¬ i = j := by omega
            go_wp2_with fail
            have hJ := HJ.out
            go_roundg (l - (i + 1))
            case measure => omega
            case rel =>
              refine ⟨i + 1, by go_num, ?_, by omega, rfl, ((HRow.out.set i _).set j _).congr ?_, (hk2.setCell (.inl (by simp)) _).setCell (.inl (by simp)) _⟩
              · congr 1; omega
              · intro k hk
                have hLL := HLL.out
                by_cases e1 : k = j
                · subst e1
                  rw [if_pos rfl, if_pos (by omega), show l - 1 - k = i by omega, HF.out i (by omega), HX.out.1]
                · rw [if_neg e1]
                  by_cases e2 : k = i
                  · subst e2
                    rw [if_pos rfl, if_pos (by omega), ← hJ, HF.out j (by omega), HX.out.2]
                  · rw [if_neg e2]
                    by_cases e3 : k < i ∨ l - 1 - i < k ∧ k < l
                    · rw [if_pos e3, if_pos (by omega)]
                    · rw [if_neg e3, if_neg (by omega)]
          · have HRow : Hid (wr.rowIs g 5 cap (fun j => if j < i ∨ l - 1 - i < j ∧ j < l then f (l - 1 - j) else f j)) := hrow
            clear hrow
            go_wp2_with fail
            go_ret
            have hLL := HLL.out
            refine ⟨g, ⟨cap, by rw [← hLL]; rfl⟩, fun j hj => ?_, hg, HK.out.trans hk2 (by simp [hg])⟩
            rw [← hLL] at hj
            rw [HRow.out.cell (i := j) (by omega)]
            have e : (if j < i ∨ l - 1 - i < j ∧ j < l then f (l - 1 - j) else f j) = f (l - 1 - j) := by
              by_cases e3 : j < i ∨ l - 1 - i < j ∧ j < l
              · exact if_pos e3
              · rw [if_neg e3, show l - 1 - j = j by omega]
            rw [e, HF.out _ (by omega), List.getD, List.getElem?_reverse (by omega), ← hLL]
end Go.Proofs.Qxb6616140aDoor
