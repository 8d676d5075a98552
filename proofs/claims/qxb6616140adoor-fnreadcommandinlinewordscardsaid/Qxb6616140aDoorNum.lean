/- ParseUint, ParseInt, ParseInteger at a text of digits. -/
import Derived.Test.Qxb6616140aDoorTrim
import Derived.Test.Qxb6616140aDoorItoa
import Derived.Laws.IdiomStrings
import Derived.Lib.Bytes
import Derived.Deep.DeepCutAuto
namespace Go.Proofs.Qxb6616140aDoor
open Go.RowKit

/-- The number that a text of digits says. -/
def num (ds : List Int) : Nat := ds.foldl (fun n d => n * 10 + (d - 48).toNat) 0

theorem num_snoc (ds : List Int) (d : Int) : num (ds ++ [d]) = num ds * 10 + (d - 48).toNat := by simp [num, List.foldl_append]

def Digits (ds : List Int) : Prop := ∀ j, j < ds.length → 48 ≤ ds.getD j 0 ∧ ds.getD j 0 ≤ 57

theorem take_snoc (ds : List Int) (k : Nat) (hk : k < ds.length) : ds.take (k + 1) = ds.take k ++ [ds.getD k 0] := by
  rw [List.take_add_one, List.getElem?_eq_getElem hk]
  simp [List.getD, List.getElem?_eq_getElem hk]

theorem num_take_lt (ds : List Int) (h : Digits ds) : ∀ k, k ≤ ds.length → num (ds.take k) < 10 ^ k
  | 0, _ => by simp [num]
  | k + 1, hk => by
    rw [take_snoc ds k (by omega), num_snoc]
    have h1 := num_take_lt ds h k (by omega)
    have h2 := h k (by omega)
    rw [Nat.pow_succ]
    omega

theorem str_ne (ds : List Int) (h : 0 < ds.length) : (strOfNums ds).toList.isEmpty = false := by
  have h1 : (strOfNums ds).toList = (strOfNums ds).data.toList := Lib.toList_data _
  rw [h1, strOfNums_data]
  cases ds with
  | nil => simp at h
  | cons d r => rfl

theorem conv_bytes (ds : List Int) (h : Digits ds) (w : World) :
    ∃ cap w1, (convert 9 24 (.string (strOfNums ds))).run Tryd.prog w = .ok (.slice (some ⟨w.heap.size, 0, none⟩) ds.length cap) w1 ∧ Keep [] w w1 ∧ ∀ j, j < ds.length → w1.cell? ⟨w.heap.size, j, none⟩ = some (.int .u8 (ds.getD j 0)) := by
  have hr := run_bytes_of_string (P := Tryd.prog) w 9 24 5 (strOfNums ds) Tryd.underlying9 Tryd.underlying24 Tryd.underlying5
  rw [strOfNums_size] at hr
  refine ⟨_, _, hr, ((Keep.refl [] w).drew).alloc _, fun j hj => ?_⟩
  have hj' : j < (strOfNums ds).data.size := by show j < (strOfNums ds).size; rw [strOfNums_size]; exact hj
  have e := World.cell?_alloc_mark w.drew (bytesRow (strOfNums ds) (grownCap w ds.length 0 5)) 5 ((bytesRow (strOfNums ds) (grownCap w ds.length 0 5)).size, (bytesRow (strOfNums ds) (grownCap w ds.length 0 5)).size + 1) j
  refine Eq.trans e ?_
  rw [bytesRow_at _ _ _ hj']
  have h2 := h j hj
  have : (strOfNums ds).data[j] = UInt8.ofNat (ds.getD j 0).toNat := by simp [strOfNums, List.getD, List.getElem?_eq_getElem hj]
  obtain ⟨n, hn⟩ : ∃ n : Nat, ds.getD j 0 = (n : Int) := ⟨(ds.getD j 0).toNat, by omega⟩
  have h3 : (UInt8.ofNat n).toNat = n := by
    rw [UInt8.toNat_ofNat']
    omega
  rw [this, hn, Int.toNat_natCast, h3]

set_option maxRecDepth 100000 in
set_option maxHeartbeats 1600000 in
theorem parseUint (ds : List Int) (hd : Digits ds) (h0 : 0 < ds.length) (h10 : ds.length ≤ 10) (w : World) :
    Calls Tryd.prog 56 #[.string (strOfNums ds), .int .i64 10, .int .i64 64] w fun e w' => e = .returned (.tuple #[.int .u64 (num ds), .nilIface]) ∧ Keep [] w w' := by
  obtain ⟨cap, w1, hcv, hk1, hc1⟩ := conv_bytes ds hd w
  obtain ⟨s, hs⟩ : ∃ s, s = strOfNums ds := ⟨_, rfl⟩
  have hne : s.toList.isEmpty = false := by rw [hs]; exact str_ne ds h0
  have hmax : IntKind.u64.wrap (IntKind.u64.wrap 18446744073709551616 - 1) = 18446744073709551615 := by decide
  rw [← hs] at hcv ⊢
  clear hs
  go_enter Tryd.func56, Tryd.ntmps56
  go_wp2_with fail
  obtain ⟨l, hl⟩ : ∃ l, l = ds.length := ⟨_, rfl⟩
  have HL : Hid (l = ds.length) := hl
  have HD : Hid (Digits ds) := hd
  have HC : Hid (∀ j, j < ds.length → w1.cell? ⟨w.heap.size, j, none⟩ = some (.int .u8 (ds.getD j 0))) := hc1
  have HK : Hid (Keep [] w w1) := hk1
  rw [← hl] at h0 h10 ⊢
  clear hcv hk1 hc1 hd hl hmax
  go_loopg [12, 13, 101] l (fun gk s12 s13 s101 wr => ∃ k : Nat, s12 = .bool false ∧ s101 = .int .i64 k ∧ s13 = .int .u64 (num (ds.take k)) ∧ k ≤ l ∧ gk = l - k ∧ wr = w1)
  case atStart => exact ⟨0, rfl, rfl, rfl, by omega, rfl, rfl⟩
  case round =>
    obtain ⟨k, rfl, rfl, rfl, hk, hgk, rfl⟩ := hrel
    by_cases hlt : k < l
    · have hlt' : (k : Int) < (l : Int) := by omega
      have hkd : k < ds.length := by rw [← HL.out]; exact hlt
      have hcell := HC.out k hkd
      have hdig := HD.out k hkd
      have hnum := num_take_lt ds HD.out k (by omega)
      have hp10 : 10 ^ k ≤ 10 ^ 9 := Nat.pow_le_pow_right (by omega) (by omega)
      have HN : Hid (num (ds.take (k + 1)) = num (ds.take k) * 10 + (ds.getD k 0 - 48).toNat) := by show _ = _; rw [take_snoc ds k hkd, num_snoc]
      obtain ⟨x, hx⟩ : ∃ x, x = ds.getD k 0 := ⟨_, rfl⟩
      obtain ⟨q, hq⟩ : ∃ q, q = num (ds.take k) := ⟨_, rfl⟩
      rw [← hx] at hcell hdig HN
      rw [← hq] at hnum HN ⊢
      have hq9 : q < 1000000000 := by omega
      obtain ⟨y, hy⟩ : ∃ y : Nat, x - 48 = (y : Int) := ⟨(x - 48).toNat, by omega⟩
      have hy9 : y ≤ 9 := by omega
      rw [hy, Int.toNat_natCast] at HN
      have HX : Hid (x - 48 = (y : Int)) := hy
      obtain ⟨z, hz⟩ : ∃ z : Nat, z = q * 10 := ⟨_, rfl⟩
      obtain ⟨v, hv⟩ : ∃ v : Nat, v = z + y := ⟨_, rfl⟩
      have t1 : (x == 95) = false := by simp; omega
      have t2 : (48 : Int) ≤ x := hdig.1
      have t3 : x ≤ (57 : Int) := hdig.2
      have t4 : IntKind.u8.wrap (x - 48) = (y : Int) := by rw [hy]; simp [IntKind.wrap_u8]; omega
      have t5 : ¬ (10 : Int) ≤ (y : Int) := by omega
      have t6 : ¬ (1844674407370955162 : Int) ≤ (q : Int) := by omega
      have t7 : IntKind.u64.wrap ((q : Int) * 10) = (z : Int) := by simp [IntKind.wrap_u64]; omega
      have t8 : IntKind.u64.wrap ((z : Int) + (y : Int)) = (v : Int) := by simp [IntKind.wrap_u64]; omega
      have t9 : ¬ (v : Int) < (z : Int) := by omega
      have t10 : ¬ (18446744073709551615 : Int) < (v : Int) := by omega
      have t11 : IntKind.u64.wrap (y : Int) = (y : Int) := by simp [IntKind.wrap_u64]; omega
      have HV : Hid (v = num (ds.take (k + 1))) := by show _ = _; rw [HN.out]; omega
      clear hx hq hp10 hnum hy hz hv
      go_wp2_with fail
      go_roundg (l - (k + 1))
      case measure => omega
      case rel => exact ⟨k + 1, rfl, by go_num, by rw [← HV.out], by omega, rfl, rfl⟩
    · obtain rfl : k = l := by omega
      have e : ds.take k = ds := by rw [HL.out, List.take_length]
      go_wp2_with fail
      go_ret2
      exact ⟨by rw [e]; rfl, HK.out⟩

theorem str_head (ds : List Int) (h : Digits ds) (h0 : 0 < ds.length) (hs : 0 < (strOfNums ds).size) : 48 ≤ (((strOfNums ds)[0]).toNat : Int) := by
  have hd := h 0 h0
  have e : (strOfNums ds)[0] = UInt8.ofNat (ds.getD 0 0).toNat := by
    show (strOfNums ds).data[0] = _
    simp [strOfNums, List.getD, List.getElem?_eq_getElem h0]
  obtain ⟨n, hn⟩ : ∃ n : Nat, ds.getD 0 0 = (n : Int) := ⟨(ds.getD 0 0).toNat, by omega⟩
  have h3 : (UInt8.ofNat n).toNat = n := by
    rw [UInt8.toNat_ofNat']
    omega
  rw [e, hn, Int.toNat_natCast, h3]
  omega

set_option maxRecDepth 100000 in
set_option maxHeartbeats 1600000 in
theorem parseInt (ds : List Int) (hd : Digits ds) (h0 : 0 < ds.length) (h10 : ds.length ≤ 10) (w : World) :
    Calls Tryd.prog 43 #[.string (strOfNums ds), .int .i64 10, .int .i64 64] w fun e w' => e = .returned (.tuple #[.int .i64 (num ds), .nilIface]) ∧ Keep [] w w' := by
  have HU : Hid (Calls Tryd.prog 56 #[.string (strOfNums ds), .int .i64 10, .int .i64 64] w fun e w' => e = .returned (.tuple #[.int .u64 (num ds), .nilIface]) ∧ Keep [] w w') := parseUint ds hd h0 h10 w
  have hb := num_take_lt ds hd ds.length (Nat.le_refl _)
  rw [List.take_length] at hb
  have hp10 : 10 ^ ds.length ≤ 10 ^ 10 := Nat.pow_le_pow_right (by omega) (by omega)
  have hn : num ds < 10000000000 := by omega
  obtain ⟨s, hs⟩ : ∃ s, s = strOfNums ds := ⟨_, rfl⟩
  have hne : s.toList.isEmpty = false := by rw [hs]; exact str_ne ds h0
  have h48 : ∀ hp : 0 < s.size, 48 ≤ ((s[0]).toNat : Int) := by rw [hs]; exact str_head ds hd h0
  have h43 : ∀ hp : 0 < s.size, (((s[0]).toNat : Int) == 43) = false := fun hp => by have := h48 hp; simp; omega
  have h45 : ∀ hp : 0 < s.size, (((s[0]).toNat : Int) == 45) = false := fun hp => by have := h48 hp; simp; omega
  have hs0 : 0 < s.size := by rw [hs, strOfNums_size]; exact h0
  rw [← hs] at HU ⊢
  clear hs hb hp10 h48
  obtain ⟨v, hv⟩ : ∃ v, v = num ds := ⟨_, rfl⟩
  rw [← hv] at HU hn ⊢
  clear hv
  go_enter Tryd.func43, Tryd.ntmps43
  go_wp2_with fail
  refine HU.out.mono ?_
  rintro e w2 ⟨rfl, hk⟩
  have HK : Hid (Keep [] w w2) := hk
  clear hk HU
  have e1 : IntKind.u64.wrap 9223372036854775808 = 9223372036854775808 := by decide
  have e2 : ¬ (9223372036854775808 : Int) ≤ (v : Int) := by omega
  have e3 : IntKind.i64.wrap (v : Int) = (v : Int) := wrap_ok _ (by omega) (by omega)
  clear hn
  go_upto_region 17 with fail
  generalize (9223372036854775808 : Int) = M at e2 ⊢
  clear e1
  go_wp2_with fail
  go_ret2
  exact ⟨rfl, HK.out⟩

set_option maxRecDepth 100000 in
theorem parseIntPub (ds : List Int) (hd : Digits ds) (h0 : 0 < ds.length) (h10 : ds.length ≤ 10) (w : World) :
    Calls Tryd.prog 33 #[.string (strOfNums ds), .int .i64 10, .int .i64 64] w fun e w' => e = .returned (.tuple #[.int .i64 (num ds), .nilIface]) ∧ Keep [] w w' := by
  have HU := parseInt ds hd h0 h10 w
  obtain ⟨s, hs⟩ : ∃ s, s = strOfNums ds := ⟨_, rfl⟩
  obtain ⟨v, hv⟩ : ∃ v, v = num ds := ⟨_, rfl⟩
  rw [← hs, ← hv] at HU ⊢
  clear hs hv
  go_enter Tryd.func33, Tryd.ntmps33
  go_wp2_with fail
  refine HU.mono ?_
  rintro e w2 ⟨rfl, hk⟩
  have HK : Hid (Keep [] w w2) := hk
  clear hk HU
  go_wp2_with fail
  go_ret2
  exact ⟨rfl, HK.out⟩

set_option maxRecDepth 100000 in
set_option maxHeartbeats 1600000 in
theorem parseInteger (b o l c : Nat) (ds : List Int) (hd : Digits ds) (hl : l = ds.length) (h0 : 0 < l) (h10 : l ≤ 10) (hlc : l ≤ c) (hz : ds.getD 0 0 = 48 → l = 1) (w : World) (hc : ∀ j, j < l → w.cell? ⟨b, o + j, none⟩ = some (.int .u8 (ds.getD j 0))) :
    Calls Tryd.prog 14 #[.slice (some ⟨b, o, none⟩) l c] w fun e w' => e = .returned (.tuple #[.int .i64 (num ds), .bool true]) ∧ Keep [] w w' := by
  have kc := fun (w : World) (C : Array Value) (n c : Nat) => Lib.run_convert_bytes_const (P := Tryd.prog) w 24 5 C n c Tryd.underlying24 Tryd.underlying5
  have HD : Hid (Digits ds) := hd
  have HC : Hid (∀ j, j < l → w.cell? ⟨b, o + j, none⟩ = some (.int .u8 (ds.getD j 0))) := hc
  have HL : Hid (l = ds.length) := hl
  have HZ : Hid (ds.getD 0 0 = 48 → l = 1) := hz
  have hb := lt_of_cell (hc 0 h0)
  clear hd hc hl hz
  go_enter Tryd.func14, Tryd.ntmps14
  go_wp2_with fail
  obtain ⟨w1, hw1⟩ : ∃ w1, w1 = w.alloc (.cells #[.int .u8 45] 5 (1, 2)) := ⟨_, rfl⟩
  have hk1 : Keep [] w w1 := by rw [hw1]; exact (Keep.refl [] w).alloc _
  have d1 : w1.cell? ⟨w.heap.size, 0, none⟩ = some (.int .u8 45) := by rw [hw1, World.cell?_alloc_mark]; rfl
  have HC1 : Hid (∀ j, j < l → w1.cell? ⟨b, o + j, none⟩ = some (.int .u8 (ds.getD j 0))) := fun j hj => (hk1.cell (p := ⟨b, o + j, none⟩) (lt_of_cell (HC.out j hj)) (by simp)).trans (HC.out j hj)
  have HK1 : Hid (Keep [] w w1) := hk1
  rw [← hw1]
  clear hw1 kc hk1
  have hdig0 := HD.out 0 (by rw [← HL.out]; exact h0)
  have hc0 : w1.cell? ⟨b, o, none⟩ = some (.int .u8 (ds.getD 0 0)) := HC1.out 0 h0
  obtain ⟨x, hx⟩ : ∃ x, x = ds.getD 0 0 := ⟨_, rfl⟩
  rw [← hx] at hc0 hdig0 HZ
  clear hx
  refine (trimPrefix b o l c w.heap.size 1 x w1 h0 hlc (by omega) hc0 hdig0.1 hdig0.2 d1).mono ?_
  rintro e w1' ⟨rfl, hw⟩
  obtain rfl := hw.symm
  clear d1
  have hl0 : ((l : Int) == 0) = false := by simp; omega
  have hx1 : (x = 48 ∧ l = 1) ∨ (x == 48) = false := by
    by_cases h : x = 48
    · exact .inl ⟨h, HZ.out h⟩
    · exact .inr (by simpa using h)
  have h0' : (0 : Int) < (l : Int) := by omega
  go_upto_region 3 with fail
  go_cut [35] (fun s35 wc => s35 = .bool false ∧ wc = w1)
  case first =>
    rcases hx1 with ⟨rfl, rfl⟩ | hx1
    · go_wp2_with fail
      go_meet
      case rel => exact ⟨rfl, rfl⟩
    · go_wp2_with fail
      go_meet
      case rel => exact ⟨rfl, rfl⟩
  case rest =>
    obtain ⟨rfl, rfl⟩ := hcut
    clear hx1 hl0 hc0 hdig0 HZ
    go_wp2_with fail
    go_loopg [38] l (fun gk s38 wr => ∃ k : Nat, s38 = .int .i64 k ∧ k ≤ l ∧ gk = l - k ∧ wr = wc)
    case atStart => exact ⟨0, rfl, by omega, rfl, rfl⟩
    case round =>
      obtain ⟨k, rfl, hk, hgk, rfl⟩ := hrel
      by_cases hlt : k < l
      · have hlt' : (k : Int) < (l : Int) := by omega
        have hcell := HC1.out k hlt
        have hdig := HD.out k (by rw [← HL.out]; exact hlt)
        obtain ⟨y, hy⟩ : ∃ y, y = ds.getD k 0 := ⟨_, rfl⟩
        rw [← hy] at hcell hdig
        clear hy
        have t2 : ¬ y < (48 : Int) := by omega
        have t3 : ¬ (57 : Int) < y := by omega
        go_wp2_with fail
        go_roundg (l - (k + 1))
        case measure => omega
        case rel => exact ⟨k + 1, by go_num, by omega, rfl, rfl⟩
      · have hlt' : ¬ (k : Int) < (l : Int) := by omega
        have hcv := run_convert_bytes_arg (P := Tryd.prog) wr 24 5 Tryd.underlying24 Tryd.underlying5 b o l c ds HL.out.symm HC1.out 9 Tryd.underlying9
        have HP : Hid (Calls Tryd.prog 33 #[.string (strOfNums ds), .int .i64 10, .int .i64 64] wr fun e w' => e = .returned (.tuple #[.int .i64 (num ds), .nilIface]) ∧ Keep [] wr w') := parseIntPub ds HD.out (by rw [← HL.out]; exact h0) (by rw [← HL.out]; exact h10) wr
        obtain ⟨s, hs⟩ : ∃ s, s = strOfNums ds := ⟨_, rfl⟩
        rw [← hs] at hcv HP
        clear hs
        go_wp2_with fail
        refine HP.out.mono ?_
        rintro e w2 ⟨rfl, hk2⟩
        have HK2 : Hid (Keep [] w w2) := HK1.out.then hk2
        clear hk2 hcv HP
        go_wp2_with fail
        go_quiet (fail)
        go_wp2_with fail
        go_ret2
        exact ⟨rfl, HK2.out.drewN _⟩

/-! ### what the decimal text of n is -/
theorem num_rdig (k : Nat) : ∀ q, q ≤ k → num (rdig q).reverse = q := by
  induction k with
  | zero => intro q hq; obtain rfl : q = 0 := by omega
            rw [rdig_zero]; rfl
  | succ k ih =>
    intro q hq
    by_cases h0 : q = 0
    · subst h0; rw [rdig_zero]; rfl
    · rw [rdig_pos q (by omega), List.reverse_cons, num_snoc, ih (q / 10) (by omega)]
      omega

theorem num_dig (n : Nat) : num (dig n) = n := by
  unfold dig
  by_cases h : n = 0
  · rw [if_pos h, h]; rfl
  · rw [if_neg h]; exact num_rdig n n (Nat.le_refl _)

theorem rdig_mem (k : Nat) : ∀ q, q ≤ k → ∀ d ∈ rdig q, 48 ≤ d ∧ d ≤ 57 := by
  induction k with
  | zero => intro q hq; obtain rfl : q = 0 := by omega
            rw [rdig_zero]; simp
  | succ k ih =>
    intro q hq d hd
    by_cases h0 : q = 0
    · subst h0; rw [rdig_zero] at hd; simp at hd
    · rw [rdig_pos q (by omega)] at hd
      rcases List.mem_cons.1 hd with rfl | hd
      · omega
      · exact ih (q / 10) (by omega) d hd

theorem dig_digits (n : Nat) : Digits (dig n) := by
  have hm : ∀ d ∈ dig n, 48 ≤ d ∧ d ≤ 57 := by
    unfold dig
    by_cases h : n = 0
    · rw [if_pos h]; intro d hd; simp at hd; omega
    · rw [if_neg h]; intro d hd; exact rdig_mem n n (Nat.le_refl _) d (List.mem_reverse.1 hd)
  intro j hj
  rw [List.getD, List.getElem?_eq_getElem hj]
  exact hm _ (List.getElem_mem hj)

theorem dig_pos (n : Nat) : 0 < (dig n).length := by
  unfold dig
  by_cases h : n = 0
  · rw [if_pos h]; simp
  · rw [if_neg h, List.length_reverse]; exact List.length_pos_iff.2 (rdig_ne n (by omega))

theorem dig_len (n : Nat) (h : n < 10000000000) : (dig n).length ≤ 10 := by
  unfold dig
  by_cases h0 : n = 0
  · rw [if_pos h0]; simp
  · rw [if_neg h0, List.length_reverse]; exact rdig_len 10 n (by omega)

theorem rdig_head (k : Nat) : ∀ q, q ≤ k → 0 < q → (rdig q).reverse.getD 0 0 ≠ 48 := by
  induction k with
  | zero => intro q hq h; omega
  | succ k ih =>
    intro q hq h
    rw [rdig_pos q h, List.reverse_cons]
    by_cases h10 : q / 10 = 0
    · rw [h10, rdig_zero]
      show ((48 + q % 10 : Nat) : Int) ≠ 48
      omega
    · have h1 := ih (q / 10) (by omega) (by omega)
      have h2 : 0 < (rdig (q / 10)).reverse.length := by rw [List.length_reverse]; exact List.length_pos_iff.2 (rdig_ne _ (by omega))
      rw [List.getD, List.getElem?_append_left h2]
      exact h1

theorem dig_head (n : Nat) (h : (dig n).getD 0 0 = 48) : (dig n).length = 1 := by
  unfold dig at h ⊢
  by_cases h0 : n = 0
  · rw [if_pos h0]; rfl
  · rw [if_neg h0] at h; exact absurd h (rdig_head n n (Nat.le_refl _) (by omega))
end Go.Proofs.Qxb6616140aDoor
