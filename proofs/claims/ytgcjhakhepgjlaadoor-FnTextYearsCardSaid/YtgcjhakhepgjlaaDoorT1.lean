/-
  WALKS, times, part a: the calendar: days to dates.
-/
import Derived.Test.YtgcjhakhepgjlaaDoorStr
import Derived.Test.YtgcjhakhepgjlaaDoorP2
import Derived.Laws.BitsAllLaws
import Derived.Laws.BitsLemmas
import Derived.Handy
import Derived.Deep.RegionHeld3
namespace Go.Proofs.YtgcjhakhepgjlaaDoor
open Go.RowKit
set_option linter.unusedVariables false

theorem ret_u {k : IntKind} {a b : Int} (h : a = b) : Ending.returned (.int k a) = .returned (.int k b) := by rw [h]
theorem ret_t2 {k l : IntKind} {a a' b b' : Int} (h : a = a') (h2 : b = b') : Ending.returned (.tuple #[.int k a, .int l b]) = .returned (.tuple #[.int k a', .int l b']) := by rw [h, h2]
theorem ret_t3 {k l m : IntKind} {a a' b b' c c' : Int} (h : a = a') (h2 : b = b') (h3 : c = c') : Ending.returned (.tuple #[.int k a, .int l b, .int m c]) = .returned (.tuple #[.int k a', .int l b', .int m c']) := by rw [h, h2, h3]

theorem or_three (n : Nat) : n ||| 3 = n / 4 * 4 + 3 := by
  have h1 : 2 ^ 2 * (n / 4) + n % 4 = 2 ^ 2 * (n / 4) ||| n % 4 := Nat.two_pow_add_eq_or_of_lt (by omega) _
  have h2 : 2 ^ 2 * (n / 4) + 3 = 2 ^ 2 * (n / 4) ||| 3 := Nat.two_pow_add_eq_or_of_lt (by omega) _
  have h3 : n = 2 ^ 2 * (n / 4) ||| n % 4 := by omega
  have h4 : n % 4 ||| 3 = 3 := by
    have : n % 4 = 0 ∨ n % 4 = 1 ∨ n % 4 = 2 ∨ n % 4 = 3 := by omega
    rcases this with e | e | e | e <;> rw [e] <;> rfl
  rw [show n ||| 3 = (2 ^ 2 * (n / 4) ||| n % 4) ||| 3 by rw [← h3], Nat.or_assoc, h4]
  omega
theorem u32_or3 (n : Nat) (h : n < 4294967292) : bits .or .u32 (n : Int) 3 = ((n / 4 * 4 + 3 : Nat) : Int) := by
  rw [← or_three]
  have hx : n ||| 3 < 2 ^ 32 := Nat.or_lt_two_pow (by omega) (by omega)
  show IntKind.u32.wrap ((BitVec.ofInt 32 (n : Int) ||| BitVec.ofInt 32 3).toNat : Int) = _
  rw [BitVec.toNat_or, show (BitVec.ofInt 32 (n : Int)).toNat = n by rw [BitVec.ofInt_natCast, BitVec.toNat_ofNat]; omega, show (BitVec.ofInt 32 3).toNat = 3 by decide]
  show (((n ||| 3 : Nat) : Int)) % 4294967296 = _
  omega

theorem mul32_any (y : Nat) (hy : y < 4294967296) (w : World) :
    Calls Tryd.prog 81 #[.int .u32 2939745, .int .u32 y] w fun e w' => e = .returned (.tuple #[.int .u32 ((2939745 * y / 4294967296 : Nat) : Int), .int .u32 ((2939745 * y % 4294967296 : Nat) : Int)]) ∧ Qt w w' := by
  go_enter Tryd.func81, Tryd.ntmps81
  go_wp2
  go_ret2
  exact ⟨ret_t2 (by omega) (by omega), Qt.refl _⟩

theorem mul_split {c : Nat} (h : c < 146104) : 2939745 * c / 4294967296 = c / 1461 ∧ 2939745 * c % 4294967296 / 2939745 / 4 = c % 1461 / 4 := by
  obtain ⟨q, r, hr, hq, rfl⟩ : ∃ q r, r < 1461 ∧ q ≤ 100 ∧ c = 1461 * q + r := ⟨c / 1461, c % 1461, by omega, by omega, by omega⟩
  have e1 : (1461 * q + r) / 1461 = q := by omega
  have e2 : (1461 * q + r) % 1461 = r := by omega
  have e3 : 2939745 * (1461 * q + r) = 4294967296 * q + (149 * q + 2939745 * r) := by omega
  rw [e1, e2, e3]
  have e4 : (4294967296 * q + (149 * q + 2939745 * r)) / 4294967296 = q := by omega
  have e5 : (4294967296 * q + (149 * q + 2939745 * r)) % 4294967296 = 149 * q + 2939745 * r := by omega
  rw [e4, e5]
  refine ⟨rfl, ?_⟩
  have : (149 * q + 2939745 * r) / 2939745 = r := by omega
  rw [this]
theorem split_walk (D : Nat) (hD : D ≤ 200000000000000) (w : World) :
    Calls Tryd.prog 69 #[.int .u64 D] w fun e w' => e = .returned (.tuple #[.int .u64 (((4 * D + 3) / 146097 : Nat) : Int), .int .i64 ((((4 * D + 3) % 146097 / 4 * 4 + 3) / 1461 : Nat) : Int), .int .i64 ((((4 * D + 3) % 146097 / 4 * 4 + 3) % 1461 / 4 : Nat) : Int)]) ∧ Qt w w' := by
  have ho : bits BinOp.or IntKind.u32 ((4 * (D : Int) + 3) % 146097) 3 = (((4 * D + 3) % 146097 / 4 * 4 + 3 : Nat) : Int) := by
    rw [← u32_or3 _ (by omega)]; rfl
  have hc : (4 * D + 3) % 146097 / 4 * 4 + 3 < 146104 := by omega
  generalize (4 * D + 3) % 146097 / 4 * 4 + 3 = c at hc ho ⊢
  have HO := hide ho
  clear ho
  go_enter Tryd.func69, Tryd.ntmps69
  go_wp2_with fail
  rw [HO.out]
  clear HO
  refine (mul32_any c (by omega) _).mono ?_
  rintro e w2 ⟨rfl, hq⟩
  go_wp2
  go_ret3
  have hs := mul_split hc
  exact ⟨ret_t3 (by omega) (by rw [← hs.1]; simp) (by rw [← hs.2]; simp), hq⟩

theorem ysplit_any (n : Nat) (hn : n ≤ 366) (w : World) :
    Calls Tryd.prog 70 #[.int .i64 n] w fun e w' => e = .returned (.tuple #[.int .i64 (((2141 * n + 197913) / 65536 : Nat) : Int), .int .i64 (Fs.mdayN n)]) ∧ Qt w w' := by
  have ha : bits BinOp.and IntKind.u32 (2141 * (n : Int) + 197913) 65535 = (((2141 * n + 197913) % 65536 : Nat) : Int) := by
    rw [show (2141 * (n : Int) + 197913) = ((2141 * n + 197913 : Nat) : Int) by omega, show (65535 : Int) = ((65535 : Nat) : Int) from rfl, u32_and_nat _ _ (by omega) (by omega), Nat.and_two_pow_sub_one_eq_mod _ 16]
  have HA := hide ha
  clear ha
  go_enter Tryd.func70, Tryd.ntmps70
  go_wp2
  go_ret2
  refine ⟨ret_t2 (by omega) ?_, Qt.refl _⟩
  rw [HA.out, Int.tdiv_eq_ediv_of_nonneg (by omega)]
  unfold Fs.mdayN
  omega

theorem janFeb_any (n : Nat) (hn : n ≤ 366) (w : World) :
    Calls Tryd.prog 71 #[.int .i64 n] w fun e w' => e = .returned (.int .i64 ((if 306 ≤ n then 1 else 0 : Nat) : Int)) ∧ Qt w w' := by
  by_cases h : 306 ≤ (n : Int)
  · rw [if_pos (by omega)]
    go_enter Tryd.func71, Tryd.ntmps71
    go_wp2
    go_ret
    exact ⟨ret_u rfl, Qt.refl _⟩
  · rw [if_neg (by omega)]
    go_enter Tryd.func71, Tryd.ntmps71
    go_wp2
    go_ret
    exact ⟨ret_u rfl, Qt.refl _⟩

theorem month_any (m j : Nat) (hm : m ≤ 100) (hj : j ≤ 1) (w : World) :
    Calls Tryd.prog 73 #[.int .i64 m, .int .i64 j] w fun e w' => e = .returned (.int .i64 ((m : Int) - 12 * j)) ∧ Qt w w' := by
  go_enter Tryd.func73, Tryd.ntmps73
  go_wp2
  go_ret
  exact ⟨ret_u (by omega), Qt.refl _⟩

theorem year_any (C K j : Nat) (hC : C ≤ 5000000000) (hK : K ≤ 100) (hj : j ≤ 1) (w : World) :
    Calls Tryd.prog 72 #[.int .u64 C, .int .i64 K, .int .i64 j] w fun e w' => e = .returned (.int .i64 (((C * 100 + K + j : Nat) : Int) - 292277022400)) ∧ Qt w w' := by
  go_enter Tryd.func72, Tryd.ntmps72
  go_wp2
  go_ret
  exact ⟨ret_u (by simp only [wrap64, IntKind.wrap_u64]; omega), Qt.refl _⟩

theorem aYear_le {y : Int} {m d : Nat} (h : Fs.Valid y m d) : Fs.aYear y m ≤ 300000000000 := by
  have := Fs.aYear_int h; have := h.y2; omega
/-- the parts of a valid day's number -/
theorem jf_of {y : Int} {m d : Nat} (h : Fs.Valid y m d) : (if 306 ≤ Fs.aDay m d then 1 else 0) = Fs.jf m := by
  have hm := (Fs.month_abs h).2.2
  have hj := Fs.jf_le m
  split <;> omega
theorem split_any {y : Int} {m d : Nat} (h : Fs.Valid y m d) (w : World) :
    Calls Tryd.prog 69 #[.int .u64 (Fs.absDays y m d)] w fun e w' => e = .returned (.tuple #[.int .u64 ((Fs.aYear y m / 100 : Nat) : Int), .int .i64 ((Fs.aYear y m % 100 : Nat) : Int), .int .i64 (Fs.aDay m d)]) ∧ Qt w w' := by
  have hb := Fs.absDays_lt h
  obtain ⟨h1, h2, h3, h4⟩ := Fs.split_abs h
  refine (split_walk (Fs.absDays y m d) (by omega) w).mono ?_
  rintro e w' ⟨rfl, hq⟩
  rw [h1, h2, h3, h4]
  exact ⟨rfl, hq⟩

theorem date_any {y : Int} {m d : Nat} (h : Fs.Valid y m d) (w : World) :
    Calls Tryd.prog 52 #[.int .u64 (Fs.absDays y m d)] w fun e w' => e = .returned (.tuple #[.int .i64 y, .int .i64 m, .int .i64 d]) ∧ Qt w w' := by
  have HJ := hide (jf_of h)
  have hA := (Fs.aDay_le h).1
  have hy := aYear_le h
  have hm := hide (Fs.month_abs h)
  have hY := hide (Fs.year_abs h)
  have hj := Fs.jf_le m
  have hc1 : Fs.aYear y m / 100 ≤ 5000000000 := by omega
  have hc2 : Fs.aYear y m % 100 ≤ 100 := by omega
  have hm2 : (2141 * Fs.aDay m d + 197913) / 65536 ≤ 100 := by omega
  have HD := hide (Fs.mday_abs h)
  go_enter Tryd.func52, Tryd.ntmps52
  go_wp2_with fail
  refine (split_any h _).mono ?_
  rintro e w1 ⟨rfl, hq1⟩
  go_wp2_with fail
  refine (ysplit_any (Fs.aDay m d) (by omega) _).mono ?_
  rintro e w2 ⟨rfl, hq2⟩
  rw [HD.out]
  go_wp2_with fail
  refine (janFeb_any (Fs.aDay m d) (by omega) _).mono ?_
  rintro e w3 ⟨rfl, hq3⟩
  rw [HJ.out]
  go_wp2_with fail
  refine (year_any (Fs.aYear y m / 100) (Fs.aYear y m % 100) (Fs.jf m) hc1 hc2 hj _).mono ?_
  rintro e w4 ⟨rfl, hq4⟩
  rw [hY.out]
  go_wp2_with fail
  refine (month_any ((2141 * Fs.aDay m d + 197913) / 65536) (Fs.jf m) hm2 hj _).mono ?_
  rintro e w5 ⟨rfl, hq5⟩
  go_wp2
  go_ret3
  have h1 := hm.out.1
  exact ⟨ret_t3 (by omega) (by omega) rfl, (((hq1.trans hq2).trans hq3).trans hq4).trans hq5⟩

theorem leap_any (C K : Nat) (hC : C ≤ 5000000000) (hK : K ≤ 100) (w : World) :
    Calls Tryd.prog 91 #[.int .u64 C, .int .i64 K] w fun e w' => e = .returned (.int .i64 (Fs.leapN C K)) ∧ Qt w w' := by
  rcases Nat.eq_zero_or_pos (K % 4) with h1 | h1 <;> rcases Nat.eq_zero_or_pos K with h2 | h2 <;> rcases Nat.eq_zero_or_pos (C % 4) with h3 | h3
  all_goals
    have b1 : ((((K : Int) % 4)) == 0) = decide (K % 4 = 0) := by rw [Bool.eq_iff_iff]; simp; omega
    have b2 : ((K : Int) != 0) = decide (K ≠ 0) := by rw [Bool.eq_iff_iff]; simp
    have b3 : ((((C : Int) % 4)) == 0) = decide (C % 4 = 0) := by rw [Bool.eq_iff_iff]; simp; omega
    first | rw [decide_eq_true h1] at b1 | rw [decide_eq_false (by omega)] at b1
    first | rw [decide_eq_false (show ¬ K ≠ 0 by omega)] at b2 | rw [decide_eq_true (show K ≠ 0 by omega)] at b2
    first | rw [decide_eq_true h3] at b3 | rw [decide_eq_false (by omega)] at b3
    have HR : Hid (Fs.leapN C K = if K % 4 = 0 ∧ (K ≠ 0 ∨ C % 4 = 0) then 1 else 0) := by show _ = _; rfl
    have H1 := hide h1
    have H2 := hide h2
    have H3 := hide h3
    clear h1 h2 h3
    go_enter Tryd.func91, Tryd.ntmps91
    go_wp2
    go_ret
    have g1 := H1.out
    have g2 := H2.out
    have g3 := H3.out
    refine ⟨ret_u ?_, Qt.refl _⟩
    rw [HR.out]
    first | (rw [if_pos (by omega)]; decide) | (rw [if_neg (by omega)]; decide)

theorem yday_any (a j lp : Nat) (ha : a ≤ 366) (hj : j ≤ 1) (hl : lp ≤ 1) (w : World) :
    Calls Tryd.prog 90 #[.int .i64 a, .int .i64 j, .int .i64 lp] w fun e w' => e = .returned (.int .i64 (Fs.ydayN a j lp)) ∧ Qt w w' := by
  have hj2 : j = 0 ∨ j = 1 := by omega
  have hl2 : lp = 0 ∨ lp = 1 := by omega
  rcases hj2 with rfl | rfl <;> rcases hl2 with rfl | rfl
  all_goals
    have e1 : bits BinOp.andNot IntKind.i64 1 0 = 1 := by decide
    have e2 : bits BinOp.andNot IntKind.i64 1 1 = 0 := by decide
    have e3 : bits BinOp.andNot IntKind.i64 0 1 = 0 := by decide
    have e4 : bits BinOp.andNot IntKind.i64 0 0 = 0 := by decide
    go_enter Tryd.func90, Tryd.ntmps90
    go_wp2
    go_ret
    exact ⟨ret_u (by simp [Fs.ydayN] <;> omega), Qt.refl _⟩

theorem yearYday_any {y : Int} {m d : Nat} (h : Fs.Valid y m d) (w : World) :
    Calls Tryd.prog 85 #[.int .u64 (Fs.absDays y m d)] w fun e w' => e = .returned (.tuple #[.int .i64 y, .int .i64 (Fs.yearDay y m d)]) ∧ Qt w w' := by
  have HJ := hide (jf_of h)
  have hA := (Fs.aDay_le h).1
  have hy := aYear_le h
  have hY := hide (Fs.year_abs h)
  have hYD := hide (Fs.yday_abs h)
  have hLP := hide (Fs.leap_abs h)
  have hj := Fs.jf_le m
  have hc1 : Fs.aYear y m / 100 ≤ 5000000000 := by omega
  have hc2 : Fs.aYear y m % 100 ≤ 100 := by omega
  have hlp : Fs.leapN (Fs.aYear y m / 100) (Fs.aYear y m % 100) ≤ 1 := by unfold Fs.leapN; split <;> omega
  go_enter Tryd.func85, Tryd.ntmps85
  go_wp2_with fail
  refine (split_any h _).mono ?_
  rintro e w1 ⟨rfl, hq1⟩
  go_wp2_with fail
  refine (janFeb_any (Fs.aDay m d) (by omega) _).mono ?_
  rintro e w3 ⟨rfl, hq3⟩
  rw [HJ.out]
  go_wp2_with fail
  refine (year_any (Fs.aYear y m / 100) (Fs.aYear y m % 100) (Fs.jf m) hc1 hc2 hj _).mono ?_
  rintro e w4 ⟨rfl, hq4⟩
  rw [hY.out]
  go_wp2_with fail
  refine (leap_any (Fs.aYear y m / 100) (Fs.aYear y m % 100) hc1 hc2 _).mono ?_
  rintro e w5 ⟨rfl, hq5⟩
  go_wp2_with fail
  refine (yday_any (Fs.aDay m d) (Fs.jf m) (Fs.leapN (Fs.aYear y m / 100) (Fs.aYear y m % 100)) (by omega) hj hlp _).mono ?_
  rintro e w6 ⟨rfl, hq6⟩
  go_wp2
  go_ret2
  refine ⟨ret_t2 (by omega) ?_, (((hq1.trans hq3).trans hq4).trans hq5).trans hq6⟩
  rw [hYD.out]
  unfold Fs.ydayN
  by_cases hz : Fs.jf m = 0
  · have := hLP.out hz
    by_cases hL : Fs.leap y = true
    · have h2 : Fs.leapN (Fs.aYear y m / 100) (Fs.aYear y m % 100) = 1 := by unfold Fs.leapN; rw [if_pos (this.1 hL)]
      rw [if_pos ⟨h2, hz⟩, if_pos ⟨hL, hz⟩]
    · have h2 : Fs.leapN (Fs.aYear y m / 100) (Fs.aYear y m % 100) = 0 := by unfold Fs.leapN; rw [if_neg (fun e => hL (this.2 e))]
      rw [if_neg (fun e => by omega), if_neg (fun e => hL e.1)]
  · rw [if_neg (fun e => hz e.2), if_neg (fun e => hz e.2)]

theorem weekday_any (D : Nat) (hD : D ≤ 200000000000000) (w : World) :
    Calls Tryd.prog 87 #[.int .u64 D] w fun e w' => e = .returned (.int .i64 (((D + 3) % 7 : Nat) : Int)) ∧ Qt w w' := by
  go_enter Tryd.func87, Tryd.ntmps87
  go_wp2
  go_ret
  exact ⟨ret_u (by omega), Qt.refl _⟩
theorem days_any (n : Nat) (hn : n ≤ 18000000000000000000) (w : World) :
    Calls Tryd.prog 51 #[.int .u64 n] w fun e w' => e = .returned (.int .u64 ((n / 86400 : Nat) : Int)) ∧ Qt w w' := by
  go_enter Tryd.func51, Tryd.ntmps51
  go_wp2
  go_ret
  exact ⟨ret_u (by omega), Qt.refl _⟩
set_option maxRecDepth 100000 in
theorem clock_any {D h mi s ns : Nat} (hD : D ≤ 200000000000000) (hc : Fs.VClock h mi s ns) (w : World) :
    Calls Tryd.prog 53 #[.int .u64 ((D * 86400 + (h * 3600 + mi * 60 + s) : Nat) : Int)] w fun e w' => e = .returned (.tuple #[.int .i64 h, .int .i64 mi, .int .i64 s]) ∧ Qt w w' := by
  obtain ⟨h1, h2, h3, -⟩ := hc
  have hn : D * 86400 + (h * 3600 + mi * 60 + s) ≤ 18000000000000000000 := by omega
  have e1 : (D * 86400 + (h * 3600 + mi * 60 + s)) % 86400 = h * 3600 + mi * 60 + s := by omega
  generalize D * 86400 + (h * 3600 + mi * 60 + s) = n at *
  have E1 := hide e1
  clear e1
  go_enter Tryd.func53, Tryd.ntmps53
  go_wp2
  go_ret3
  have := E1.out
  exact ⟨ret_t3 (by omega) (by omega) (by omega), Qt.refl _⟩
end Go.Proofs.YtgcjhakhepgjlaaDoor

/-
  WALKS, times, part b: places and times: UTC, FixedZone, Date, and what a time tells.
-/
namespace Go.Proofs.YtgcjhakhepgjlaaDoor
open Go.RowKit
set_option linter.unusedVariables false
attribute [local go_sem] ByteArray.extract_mk get_mk ByteArray.toList_mk ByteArray.mk_append_mk take_drop_len

/-- a place with one offset, in block g -/
structure FixLoc (w : World) (g : Nat) (name : List UInt8) (off : Int) : Prop where
  c0 : w.cell? ⟨g, 0, none⟩ = some (.bool false)
  c5 : w.cell? ⟨g, 5, none⟩ = some (.int .i64 (-9223372036854775808))
  c6 : w.cell? ⟨g, 6, none⟩ = some (.int .i64 9223372036854775807)
  z : ∃ z, w.cell? ⟨g, 2, none⟩ = some (.slice (some ⟨z, 0, none⟩) 1 1) ∧ w.cell? ⟨g, 7, none⟩ = some (.pointer (some ⟨z, 0, none⟩)) ∧
    w.cell? ⟨z, 0, none⟩ = some (.string ⟨name.toArray⟩) ∧ w.cell? ⟨z, 1, none⟩ = some (.int .i64 off) ∧ w.cell? ⟨z, 2, none⟩ = some (.bool false)
/-- UTC, in block g -/
structure UtcLoc (w : World) (g : Nat) : Prop where
  c0 : w.cell? ⟨g, 0, none⟩ = some (.bool true)
  c2 : w.cell? ⟨g, 2, none⟩ = some (.slice none 0 0)

theorem fixedZone_any (name : List UInt8) (off : Int) (w : World) :
    Calls Tryd.prog 68 #[.string ⟨name.toArray⟩, .int .i64 off] w fun e w' => e = .returned (.pointer (some ⟨w.heap.size + 2, 0, none⟩)) ∧ FixLoc w' (w.heap.size + 2) name off ∧ Below w.heap.size w w' := by
  go_enter Tryd.func68, Tryd.ntmps68
  go_wp2
  go_ret
  refine ⟨rfl, ⟨?_, ?_, ?_, w.heap.size, ?_, ?_, ?_, ?_, ?_⟩, (((Below.refl _ _).alloc (Nat.le_refl _) _).alloc (by simp) _).alloc (by simp; omega) _⟩
  all_goals go_simp
theorem FixedZone_any (name : List UInt8) (off : Int) (w : World) :
    Calls Tryd.prog 48 #[.string ⟨name.toArray⟩, .int .i64 off] w fun e w' => e = .returned (.pointer (some ⟨w.heap.size + 2, 0, none⟩)) ∧ FixLoc w' (w.heap.size + 2) name off ∧ Below w.heap.size w w' := by
  go_enter Tryd.func48, Tryd.ntmps48
  go_wp2_with fail
  refine (fixedZone_any name off _).mono ?_
  rintro e w1 ⟨rfl, hF, hb⟩
  go_wp2
  go_ret
  exact ⟨rfl, hF, hb⟩
theorem UTC_any (w : World) :
    Calls Tryd.prog 27 #[] w fun e w' => e = .returned (.pointer (some ⟨w.heap.size, 0, none⟩)) ∧ UtcLoc w' w.heap.size ∧ Below w.heap.size w w' := by
  go_enter Tryd.func27, Tryd.ntmps27
  go_wp2
  go_ret
  refine ⟨rfl, ⟨?_, ?_⟩, (Below.refl _ _).alloc (Nat.le_refl _) _⟩
  all_goals go_simp
theorem get_some (a : Addr) (w : World) :
    Calls Tryd.prog 65 #[.pointer (some a)] w fun e w' => e = .returned (.pointer (some a)) ∧ Qt w w' := by
  go_enter Tryd.func65, Tryd.ntmps65
  go_wp2
  go_ret
  exact ⟨rfl, Qt.refl _⟩
theorem get_none (w : World) :
    Calls Tryd.prog 65 #[.pointer none] w fun e w' => e = .returned (.pointer (some ⟨w.heap.size, 0, none⟩)) ∧ UtcLoc w' w.heap.size ∧ Below w.heap.size w w' := by
  go_enter Tryd.func65, Tryd.ntmps65
  go_wp2_with fail
  refine (UTC_any _).mono ?_
  rintro e w1 ⟨rfl, hU, hb⟩
  go_wp2
  go_ret
  exact ⟨rfl, hU, hb⟩

/-- what a place with one offset answers to any second -/
def lookV (name : List UInt8) (off : Int) : Value := .tuple #[.string ⟨name.toArray⟩, .int .i64 off, .int .i64 (-9223372036854775808), .int .i64 9223372036854775807, .bool false]
def utcB : List UInt8 := [85, 84, 67]
set_option maxRecDepth 100000 in
theorem lookup_utc (g : Nat) (sec : Int) (w : World) (hU : UtcLoc w g) :
    Calls Tryd.prog 45 #[.pointer (some ⟨g, 0, none⟩), .int .i64 sec] w fun e w' => e = .returned (lookV utcB 0) ∧ Qt w w' := by
  have h2 := hU.c2
  go_enter Tryd.func45, Tryd.ntmps45
  go_wp2_with fail
  refine (get_some ⟨g, 0, none⟩ _).mono ?_
  rintro e w1 ⟨rfl, hq⟩
  have h3 := hq.cell h2
  go_wp2
  exact bodyPost_ret (v := lookV utcB 0) (by simp [results, Tryd.results45, go_sem, lookV, utcB]) rfl ⟨rfl, hq⟩
set_option maxRecDepth 100000 in
theorem lookup_none (sec : Int) (w : World) :
    Calls Tryd.prog 45 #[.pointer none, .int .i64 sec] w fun e w' => e = .returned (lookV utcB 0) ∧ Below w.heap.size w w' := by
  go_enter Tryd.func45, Tryd.ntmps45
  go_wp2_with fail
  refine (get_none _).mono ?_
  rintro e w1 ⟨rfl, hU, hb⟩
  have h3 := hU.c2
  go_wp2
  exact bodyPost_ret (v := lookV utcB 0) (by simp [results, Tryd.results45, go_sem, lookV, utcB]) rfl ⟨rfl, hb⟩
set_option maxRecDepth 100000 in
theorem lookup_fix (g : Nat) (name : List UInt8) (off sec : Int) (h0 : -9000000000000000000 ≤ sec) (h1 : sec ≤ 9000000000000000000) (w : World) (hF : FixLoc w g name off) :
    Calls Tryd.prog 45 #[.pointer (some ⟨g, 0, none⟩), .int .i64 sec] w fun e w' => e = .returned (lookV name off) ∧ Qt w w' := by
  obtain ⟨c0, c5, c6, z, c2, c7, z0, z1, z2⟩ := hF
  go_enter Tryd.func45, Tryd.ntmps45
  go_wp2_with fail
  refine (get_some ⟨g, 0, none⟩ _).mono ?_
  rintro e w1 ⟨rfl, hq⟩
  have d5 := hq.cell c5
  have d6 := hq.cell c6
  have d2 := hq.cell c2
  have d7 := hq.cell c7
  have e0 := hq.cell z0
  have e1 := hq.cell z1
  have e2 := hq.cell z2
  go_wp2
  exact bodyPost_ret (v := lookV name off) (by simp [results, Tryd.results45, go_sem, lookV]) rfl ⟨rfl, hq⟩

theorem fix_at {w : World} {g : Nat} {name : List UInt8} {off : Int} (g' : Nat) (h : FixLoc w g name off) (e : g = g') : FixLoc w g' name off := e ▸ h
theorem utc_at {w : World} {g : Nat} (g' : Nat) (h : UtcLoc w g) (e : g = g') : UtcLoc w g' := e ▸ h
theorem FixLoc.below {w w' : World} {g : Nat} {name : List UInt8} {off : Int} (h : FixLoc w g name off) (hb : Below w.heap.size w w') : FixLoc w' g name off := by
  obtain ⟨c0, c5, c6, z, c2, c7, z0, z1, z2⟩ := h
  exact ⟨Below.cellk hb c0, Below.cellk hb c5, Below.cellk hb c6, z, Below.cellk hb c2, Below.cellk hb c7, Below.cellk hb z0, Below.cellk hb z1, Below.cellk hb z2⟩
theorem UtcLoc.below {w w' : World} {g : Nat} (h : UtcLoc w g) (hb : Below w.heap.size w w') : UtcLoc w' g := ⟨Below.cellk hb h.c0, Below.cellk hb h.c2⟩
theorem below_box {w w' : World} {o : Obj} (h : Below (w.alloc o).heap.size (w.alloc o) w') : Below w.heap.size w w' :=
  ((Below.refl _ _).alloc (Nat.le_refl _) o).trans (h.mono (by simp))
theorem place_utc (w : World) :
    Calls Tryd.prog 34 #[.agg #[.string ⟨utcB.toArray⟩, .int .i64 0]] w fun e w' => e = .returned (.pointer (some ⟨w.heap.size + 1, 0, none⟩)) ∧ UtcLoc w' (w.heap.size + 1) ∧ Below w.heap.size w w' := by
  unfold utcB
  go_enter Tryd.func34, Tryd.ntmps34
  go_wp2_with fail
  refine (UTC_any _).mono ?_
  rintro e w1 ⟨rfl, hU, hb⟩
  have hU2 := utc_at (w.heap.size + 1) hU (by simp)
  go_wp2
  go_ret
  exact ⟨rfl, hU2, below_box hb⟩
theorem place_fix (name : List UInt8) (off : Int) (h : ¬ (name = utcB ∧ off = 0)) (w : World) :
    Calls Tryd.prog 34 #[.agg #[.string ⟨name.toArray⟩, .int .i64 off]] w fun e w' => e = .returned (.pointer (some ⟨w.heap.size + 3, 0, none⟩)) ∧ FixLoc w' (w.heap.size + 3) name off ∧ Below w.heap.size w w' := by
  by_cases hn : name = utcB
  · subst hn
    have h0 : (off == 0) = false := by rw [beq_eq_false_iff_ne]; exact fun e => h ⟨rfl, e⟩
    clear h
    unfold utcB
    go_enter Tryd.func34, Tryd.ntmps34
    go_wp2_with fail
    refine (FixedZone_any _ off _).mono ?_
    rintro e w1 ⟨rfl, hF, hb⟩
    have hF2 := fix_at (w.heap.size + 3) hF (by simp)
    go_wp2
    go_ret
    exact ⟨rfl, hF2, below_box hb⟩
  · have h0 : (name == [85, 84, 67]) = false := by rw [beq_eq_false_iff_ne]; exact hn
    clear h hn
    go_enter Tryd.func34, Tryd.ntmps34
    go_wp2_with fail
    refine (FixedZone_any _ off _).mono ?_
    rintro e w1 ⟨rfl, hF, hb⟩
    have hF2 := fix_at (w.heap.size + 3) hF (by simp)
    go_wp2
    go_ret
    exact ⟨rfl, hF2, below_box hb⟩
end Go.Proofs.YtgcjhakhepgjlaaDoor

/-
  WALKS, times, part c: a time in memory: its seconds, its place.
-/
namespace Go.Proofs.YtgcjhakhepgjlaaDoor
open Go.RowKit
set_option linter.unusedVariables false
attribute [local go_sem] ByteArray.extract_mk get_mk ByteArray.toList_mk ByteArray.mk_append_mk take_drop_len

/-- a time in block b: nanoseconds, seconds, place -/
structure TCell (w : World) (b : Nat) (ns : Nat) (ext : Int) (lv : Value) : Prop where
  c0 : w.cell? ⟨b, 0, none⟩ = some (.int .u64 ns)
  c1 : w.cell? ⟨b, 1, none⟩ = some (.int .i64 ext)
  c2 : w.cell? ⟨b, 2, none⟩ = some lv
theorem TCell.below {w w' : World} {b ns : Nat} {ext : Int} {lv : Value} (h : TCell w b ns ext lv) (hb : Below w.heap.size w w') : TCell w' b ns ext lv := ⟨Below.cellk hb h.c0, Below.cellk hb h.c1, Below.cellk hb h.c2⟩
theorem TCell.qt {w w' : World} {b ns : Nat} {ext : Int} {lv : Value} (h : TCell w b ns ext lv) (hq : Qt w w') : TCell w' b ns ext lv := ⟨hq.cell h.c0, hq.cell h.c1, hq.cell h.c2⟩
theorem TCell.new (w : World) (ns : Nat) (ext : Int) (lv : Value) (t : TypeId) : TCell (w.alloc (.cells #[.int .u64 ns, .int .i64 ext, lv] t)) w.heap.size ns ext lv := by
  refine ⟨?_, ?_, ?_⟩ <;> go_simp
theorem no_mono (ns : Nat) (h : ns ≤ 999999999) : bits BinOp.and IntKind.u64 (ns : Int) 9223372036854775808 = 0 := by
  rw [show (9223372036854775808 : Int) = ((9223372036854775808 : Nat) : Int) from rfl, u64_and_nat _ _ (by omega) (by omega), nat_bit 63]
  have : ns / 2 ^ 63 = 0 := Nat.div_eq_of_lt (by omega)
  rw [this]
  rfl
theorem all_nsec (ns : Nat) (h : ns ≤ 999999999) : bits BinOp.and IntKind.u64 (ns : Int) 1073741823 = ns := by
  rw [show (1073741823 : Int) = ((1073741823 : Nat) : Int) from rfl, u64_and_nat _ _ (by omega) (by omega), Nat.and_two_pow_sub_one_eq_mod _ 30]
  omega

theorem sec_any (b ns : Nat) (hn : ns ≤ 999999999) (ext : Int) (lv : Value) (w : World) (H : TCell w b ns ext lv) :
    Calls Tryd.prog 67 #[.pointer (some ⟨b, 0, none⟩)] w fun e w' => e = .returned (.int .i64 ext) ∧ Qt w w' := by
  obtain ⟨c0, c1, c2⟩ := H
  have hm := no_mono ns hn
  go_enter Tryd.func67, Tryd.ntmps67
  go_wp2
  go_ret
  exact ⟨rfl, Qt.refl _⟩
theorem unixSec_any (b ns : Nat) (hn : ns ≤ 999999999) (ext : Int) (h0 : -4000000000000000000 ≤ ext) (h1 : ext ≤ 4000000000000000000) (lv : Value) (w : World) (H : TCell w b ns ext lv) :
    Calls Tryd.prog 46 #[.pointer (some ⟨b, 0, none⟩)] w fun e w' => e = .returned (.int .i64 (ext - 62135596800)) ∧ Qt w w' := by
  go_enter Tryd.func46, Tryd.ntmps46
  go_wp2_with fail
  refine (sec_any b ns hn ext lv _ H).mono ?_
  rintro e w1 ⟨rfl, hq⟩
  go_wp2
  go_ret
  exact ⟨ret_u (by omega), hq⟩
theorem nsec_any (b ns : Nat) (hn : ns ≤ 999999999) (ext : Int) (lv : Value) (w : World) (H : TCell w b ns ext lv) :
    Calls Tryd.prog 49 #[.pointer (some ⟨b, 0, none⟩)] w fun e w' => e = .returned (.int .i32 ns) ∧ Qt w w' := by
  obtain ⟨c0, c1, c2⟩ := H
  have hm := all_nsec ns hn
  go_enter Tryd.func49, Tryd.ntmps49
  go_wp2
  go_ret
  exact ⟨rfl, Qt.refl _⟩
theorem stripMono_any (b ns : Nat) (hn : ns ≤ 999999999) (ext : Int) (lv : Value) (w : World) (H : TCell w b ns ext lv) :
    Calls Tryd.prog 64 #[.pointer (some ⟨b, 0, none⟩)] w fun e w' => e = .returned (.tuple #[]) ∧ Qt w w' := by
  obtain ⟨c0, c1, c2⟩ := H
  have hm := no_mono ns hn
  go_enter Tryd.func64, Tryd.ntmps64
  go_wp2
  go_end0
  exact ⟨rfl, Qt.refl _⟩
/-- Nanosecond -/
theorem Nanosecond_any (ns : Nat) (hn : ns ≤ 999999999) (ext : Int) (lv : Value) (w : World) :
    Calls Tryd.prog 28 #[.agg #[.int .u64 ns, .int .i64 ext, lv]] w fun e w' => e = .returned (.int .i64 ns) ∧ Below w.heap.size w w' := by
  go_enter Tryd.func28, Tryd.ntmps28
  go_wp2_with fail
  refine (nsec_any _ ns hn ext lv _ (TCell.new w ns ext lv _)).mono ?_
  rintro e w1 ⟨rfl, hq⟩
  go_wp2
  go_ret
  exact ⟨ret_u (by first | rfl | omega), below_box (hq.below _)⟩
end Go.Proofs.YtgcjhakhepgjlaaDoor

/-
  WALKS, times, part d: what a time tells at its place.
-/
namespace Go.Proofs.YtgcjhakhepgjlaaDoor
open Go.RowKit
set_option linter.unusedVariables false
attribute [local go_sem] ByteArray.extract_mk get_mk ByteArray.toList_mk ByteArray.mk_append_mk take_drop_len

def timeV (ns : Nat) (ext : Int) (lv : Value) : Value := .agg #[.int .u64 ns, .int .i64 ext, lv]
/-- the place of a time -/
def TL (w : World) (lv : Value) (name : List UInt8) (off : Int) : Prop := (lv = .pointer none ∧ name = utcB ∧ off = 0) ∨ ∃ g, lv = .pointer (some ⟨g, 0, none⟩) ∧ FixLoc w g name off
theorem TL.below {w w' : World} {lv : Value} {name : List UInt8} {off : Int} (h : TL w lv name off) (hb : Below w.heap.size w w') : TL w' lv name off := by
  rcases h with h | ⟨g, e, hF⟩
  · exact .inl h
  · exact .inr ⟨g, e, hF.below hb⟩

theorem ret_sii {s : ByteArray} {k l : IntKind} {a b b' : Int} (h : b = b') : Ending.returned (.tuple #[.string s, .int k a, .int l b]) = .returned (.tuple #[.string s, .int k a, .int l b']) := by rw [h]
theorem ret_si {s : ByteArray} {k : IntKind} {a a' : Int} (h : a = a') : Ending.returned (.tuple #[.string s, .int k a]) = .returned (.tuple #[.string s, .int k a']) := by rw [h]
theorem TL.ptr {w : World} {lv : Value} {name : List UInt8} {off : Int} (h : TL w lv name off) : ∃ q, lv = .pointer q := by
  rcases h with ⟨h, _⟩ | ⟨g, h, _⟩
  · exact ⟨none, h⟩
  · exact ⟨_, h⟩
set_option maxRecDepth 100000 in
theorem locabs_none (ns : Nat) (hn : ns ≤ 999999999) (S : Int) (h0 : -100000000000000000 ≤ S) (h1 : S ≤ 100000000000000000) (A : Nat) (hA : (A : Int) = S + 9223371966606163200) (w : World) :
    Calls Tryd.prog 74 #[.agg #[.int .u64 ns, .int .i64 S, .pointer none]] w fun e w' => e = .returned (.tuple #[.string ⟨utcB.toArray⟩, .int .i64 0, .int .u64 A]) ∧ Below w.heap.size w w' := by
  have HA := hide hA
  clear hA
  go_enter Tryd.func74, Tryd.ntmps74
  go_wp2_with fail
  refine (get_none _).mono ?_
  rintro e w1 ⟨rfl, hU, hb⟩
  have d0 := (utc_at (w.heap.size + 1) hU (by simp)).c0
  go_wp2_with fail
  refine (unixSec_any _ ns hn S (by omega) (by omega) (.pointer none) _ ((TCell.new w ns S (.pointer none) _).below hb)).mono ?_
  rintro e w2 ⟨rfl, hq⟩
  have e0 := hq.cell d0
  go_wp2
  go_ret3
  refine ⟨?_, (below_box hb).trans (hq.below _)⟩
  have := HA.out
  exact ret_sii (by simp only [wrap64, IntKind.wrap_u64]; omega)
theorem locabs_fix (ns : Nat) (hn : ns ≤ 999999999) (g : Nat) (name : List UInt8) (off S : Int) (h0 : -100000000000000000 ≤ S) (h1 : S ≤ 100000000000000000) (h2 : -100000 ≤ off) (h3 : off ≤ 100000) (A : Nat) (hA : (A : Int) = S + 9223371966606163200) (w : World) (hF : FixLoc w g name off) :
    Calls Tryd.prog 74 #[.agg #[.int .u64 ns, .int .i64 (S - off), .pointer (some ⟨g, 0, none⟩)]] w fun e w' => e = .returned (.tuple #[.string ⟨name.toArray⟩, .int .i64 off, .int .u64 A]) ∧ Below w.heap.size w w' := by
  have HA := hide hA
  clear hA
  have hF1 : FixLoc (w.alloc (.cells #[.int .u64 ns, .int .i64 (S - off), .pointer (some ⟨g, 0, none⟩)] 41)) g name off := hF.below ((Below.refl _ _).alloc (Nat.le_refl _) _)
  have HF := hide hF1
  clear hF hF1
  go_enter Tryd.func74, Tryd.ntmps74
  go_wp2_with fail
  refine (unixSec_any _ ns hn (S - off) (by omega) (by omega) (.pointer (some ⟨g, 0, none⟩)) _ (TCell.new w ns (S - off) (.pointer (some ⟨g, 0, none⟩)) _)).mono ?_
  rintro e w2 ⟨rfl, hq⟩
  obtain ⟨c0, c5, c6, z, c2, c7, z0, z1, z2⟩ := HF.out.below (hq.below _)
  go_wp2
  go_ret3
  refine ⟨?_, below_box (hq.below _)⟩
  have := HA.out
  exact ret_sii (by simp only [wrap64, IntKind.wrap_u64]; omega)
/-- the two ways joined: name, offset, and the seconds since the absolute epoch -/
theorem locabs_any (ns : Nat) (hn : ns ≤ 999999999) (name : List UInt8) (off S : Int) (h0 : -100000000000000000 ≤ S) (h1 : S ≤ 100000000000000000) (h2 : -100000 ≤ off) (h3 : off ≤ 100000) (A : Nat) (hA : (A : Int) = S + 9223371966606163200) (lv : Value) (w : World) (hT : TL w lv name off) :
    Calls Tryd.prog 74 #[timeV ns (S - off) lv] w fun e w' => e = .returned (.tuple #[.string ⟨name.toArray⟩, .int .i64 off, .int .u64 A]) ∧ Below w.heap.size w w' := by
  rcases hT with ⟨rfl, rfl, rfl⟩ | ⟨g, rfl, hF⟩
  · have := locabs_none ns hn S h0 h1 A hA w
    unfold timeV
    rw [Int.sub_zero]
    exact this
  · exact locabs_fix ns hn g name off S h0 h1 h2 h3 A hA w hF

set_option maxRecDepth 100000 in
theorem absSec_none (ns : Nat) (hn : ns ≤ 999999999) (S : Int) (h0 : -100000000000000000 ≤ S) (h1 : S ≤ 100000000000000000) (A : Nat) (hA : (A : Int) = S + 9223371966606163200) (w : World) :
    Calls Tryd.prog 50 #[.agg #[.int .u64 ns, .int .i64 S, .pointer none]] w fun e w' => e = .returned (.int .u64 A) ∧ Below w.heap.size w w' := by
  have HA := hide hA
  clear hA
  go_enter Tryd.func50, Tryd.ntmps50
  go_wp2_with fail
  refine (get_none _).mono ?_
  rintro e w1 ⟨rfl, hU, hb⟩
  have d0 := (utc_at (w.heap.size + 1) hU (by simp)).c0
  go_wp2_with fail
  refine (unixSec_any _ ns hn S (by omega) (by omega) (.pointer none) _ ((TCell.new w ns S (.pointer none) _).below hb)).mono ?_
  rintro e w2 ⟨rfl, hq⟩
  have e0 := hq.cell d0
  go_wp2
  go_ret
  refine ⟨?_, (below_box hb).trans (hq.below _)⟩
  have := HA.out
  exact ret_u (by simp only [wrap64, IntKind.wrap_u64]; omega)
theorem absSec_fix (ns : Nat) (hn : ns ≤ 999999999) (g : Nat) (name : List UInt8) (off S : Int) (h0 : -100000000000000000 ≤ S) (h1 : S ≤ 100000000000000000) (h2 : -100000 ≤ off) (h3 : off ≤ 100000) (A : Nat) (hA : (A : Int) = S + 9223371966606163200) (w : World) (hF : FixLoc w g name off) :
    Calls Tryd.prog 50 #[.agg #[.int .u64 ns, .int .i64 (S - off), .pointer (some ⟨g, 0, none⟩)]] w fun e w' => e = .returned (.int .u64 A) ∧ Below w.heap.size w w' := by
  have HA := hide hA
  clear hA
  have hF1 : FixLoc (w.alloc (.cells #[.int .u64 ns, .int .i64 (S - off), .pointer (some ⟨g, 0, none⟩)] 41)) g name off := hF.below ((Below.refl _ _).alloc (Nat.le_refl _) _)
  have HF := hide hF1
  clear hF hF1
  go_enter Tryd.func50, Tryd.ntmps50
  go_wp2_with fail
  refine (unixSec_any _ ns hn (S - off) (by omega) (by omega) (.pointer (some ⟨g, 0, none⟩)) _ (TCell.new w ns (S - off) (.pointer (some ⟨g, 0, none⟩)) _)).mono ?_
  rintro e w2 ⟨rfl, hq⟩
  obtain ⟨c0, c5, c6, z, c2, c7, z0, z1, z2⟩ := HF.out.below (hq.below _)
  go_wp2
  go_ret
  refine ⟨?_, below_box (hq.below _)⟩
  have := HA.out
  exact ret_u (by simp only [wrap64, IntKind.wrap_u64]; omega)
theorem absSec_any (ns : Nat) (hn : ns ≤ 999999999) (name : List UInt8) (off S : Int) (h0 : -100000000000000000 ≤ S) (h1 : S ≤ 100000000000000000) (h2 : -100000 ≤ off) (h3 : off ≤ 100000) (A : Nat) (hA : (A : Int) = S + 9223371966606163200) (lv : Value) (w : World) (hT : TL w lv name off) :
    Calls Tryd.prog 50 #[timeV ns (S - off) lv] w fun e w' => e = .returned (.int .u64 A) ∧ Below w.heap.size w w' := by
  rcases hT with ⟨rfl, rfl, rfl⟩ | ⟨g, rfl, hF⟩
  · have := absSec_none ns hn S h0 h1 A hA w
    unfold timeV
    rw [Int.sub_zero]
    exact this
  · exact absSec_fix ns hn g name off S h0 h1 h2 h3 A hA w hF

/-- a time is told: date and clock, at its place -/
structure Told (w : World) (v : Value) (y : Int) (m d h mi s ns : Nat) (name : List UInt8) (off : Int) : Prop where
  v : ∃ lv, v = timeV ns (Fs.isecs y m d h mi s - off) lv ∧ TL w lv name off
  date : Fs.Valid y m d
  clock : Fs.VClock h mi s ns
  o1 : -100000 ≤ off
  o2 : off ≤ 100000
theorem Told.below {w w' : World} {v : Value} {y : Int} {m d h mi s ns : Nat} {name : List UInt8} {off : Int} (H : Told w v y m d h mi s ns name off) (hb : Below w.heap.size w w') : Told w' v y m d h mi s ns name off := by
  obtain ⟨⟨lv, e, hT⟩, h1, h2, h3, h4⟩ := H
  exact ⟨⟨lv, e, hT.below hb⟩, h1, h2, h3, h4⟩
/-- the absolute seconds -/
def absN (y : Int) (m d h mi s : Nat) : Nat := Fs.absDays y m d * 86400 + (h * 3600 + mi * 60 + s)
theorem locabs_told {w : World} {v : Value} {y : Int} {m d h mi s ns : Nat} {name : List UInt8} {off : Int} (H : Told w v y m d h mi s ns name off) :
    Calls Tryd.prog 74 #[v] w fun e w' => e = .returned (.tuple #[.string ⟨name.toArray⟩, .int .i64 off, .int .u64 (absN y m d h mi s)]) ∧ Below w.heap.size w w' := by
  obtain ⟨⟨lv, rfl, hT⟩, hd, hc, o1, o2⟩ := H
  have hb := Fs.isecs_bd hd hc
  exact locabs_any ns hc.ns1 name off _ (by omega) (by omega) o1 o2 (absN y m d h mi s) (by rw [Fs.isecs_abs hd hc]; rfl) lv w hT
theorem absSec_told {w : World} {v : Value} {y : Int} {m d h mi s ns : Nat} {name : List UInt8} {off : Int} (H : Told w v y m d h mi s ns name off) :
    Calls Tryd.prog 50 #[v] w fun e w' => e = .returned (.int .u64 (absN y m d h mi s)) ∧ Below w.heap.size w w' := by
  obtain ⟨⟨lv, rfl, hT⟩, hd, hc, o1, o2⟩ := H
  have hb := Fs.isecs_bd hd hc
  exact absSec_any ns hc.ns1 name off _ (by omega) (by omega) o1 o2 (absN y m d h mi s) (by rw [Fs.isecs_abs hd hc]; rfl) lv w hT
theorem absN_le {y : Int} {m d h mi s ns : Nat} (hd : Fs.Valid y m d) (hc : Fs.VClock h mi s ns) : absN y m d h mi s ≤ 18000000000000000000 := by
  have := Fs.absDays_lt hd
  obtain ⟨h1, h2, h3, -⟩ := hc
  unfold absN
  omega
theorem absN_days {y : Int} {m d h mi s ns : Nat} (hd : Fs.Valid y m d) (hc : Fs.VClock h mi s ns) : absN y m d h mi s / 86400 = Fs.absDays y m d := (Fs.clock_abs hc).1
theorem absN_day {y : Int} {m d h mi s ns : Nat} (hd : Fs.Valid y m d) (hc : Fs.VClock h mi s ns) (w : World) :
    Calls Tryd.prog 51 #[.int .u64 (absN y m d h mi s)] w fun e w' => e = .returned (.int .u64 (Fs.absDays y m d)) ∧ Qt w w' := by
  have := days_any _ (absN_le hd hc) w
  rw [absN_days hd hc] at this
  exact this
theorem absN_clock {y : Int} {m d h mi s ns : Nat} (hd : Fs.Valid y m d) (hc : Fs.VClock h mi s ns) (w : World) :
    Calls Tryd.prog 53 #[.int .u64 (absN y m d h mi s)] w fun e w' => e = .returned (.tuple #[.int .i64 h, .int .i64 mi, .int .i64 s]) ∧ Qt w w' := by
  have := Fs.absDays_lt hd
  exact clock_any (by omega) hc w
end Go.Proofs.YtgcjhakhepgjlaaDoor

/-
  WALKS, times, part e: Date makes a time.
-/
namespace Go.Proofs.YtgcjhakhepgjlaaDoor
open Go.RowKit
set_option linter.unusedVariables false
attribute [local go_sem] ByteArray.extract_mk get_mk ByteArray.toList_mk ByteArray.mk_append_mk take_drop_len

theorem norm_in (hi lo base : Int) (h0 : 0 ≤ lo) (h1 : lo < base) (w : World) :
    Calls Tryd.prog 54 #[.int .i64 hi, .int .i64 lo, .int .i64 base] w fun e w' => e = .returned (.tuple #[.int .i64 hi, .int .i64 lo]) ∧ Qt w w' := by
  have h2 : ¬ lo < 0 := by omega
  have h3 : ¬ base ≤ lo := by omega
  go_enter Tryd.func54, Tryd.ntmps54
  go_wp2
  go_ret2
  exact ⟨rfl, Qt.refl _⟩

theorem u64_small {n : Nat} (h : n ≤ 1000000000000000000) : IntKind.u64.wrap (n : Int) = (n : Int) := by
  rw [IntKind.wrap_u64]
  exact Int.emod_eq_of_lt (by omega) (by omega)
theorem e5_of {K : Nat} (h : K < 100) : 1461 * (((K : Nat) : Int) % 4294967296) % 4294967296 / 4 = ((1461 * K / 4 : Nat) : Int) := by omega
theorem e6_of (m : Nat) : (979 * ((m : Int) + 12) - 2919) / 32 = (((979 * (m + 12) - 2919) / 32 : Nat) : Int) := by omega
theorem e6_of' {m : Nat} (h : 3 ≤ m) : (979 * (m : Int) - 2919) / 32 = (((979 * m - 2919) / 32 : Nat) : Int) := by omega
theorem p_of {C : Nat} (h : C ≤ 3000000000) : 146097 * C / 4 ≤ 200000000000000 := by omega
theorem unix_of {D T : Nat} (h1 : D ≤ 200000000000000) (h2 : T ≤ 86400) (h3 : 106000000000000 ≤ D) (h4 : D ≤ 107000000000000) : wrap64 (wrap64 (wrap64 ((D : Int) * 86400) + (T : Int)) + -9223372028741760000) = (D : Int) * 86400 + (T : Int) - 9223371966606163200 - 62135596800 := by
  simp only [wrap64]
  omega
theorem jf_lit {m : Nat} (m1 : 1 ≤ m) (m2 : m ≤ 12) : (m < 3 ∧ Fs.jf m = 1) ∨ (3 ≤ m ∧ Fs.jf m = 0) := by
  unfold Fs.jf
  by_cases h : m < 3
  · exact .inl ⟨h, if_pos h⟩
  · exact .inr ⟨by omega, if_neg h⟩
theorem dateToAbsDays_any {y : Int} {m d : Nat} (y1 : -200000000 ≤ y) (y2 : y ≤ 200000000) (m1 : 1 ≤ m) (m2 : m ≤ 12) (d1 : 1 ≤ d) (d2 : d ≤ 31) (w : World) :
    Calls Tryd.prog 55 #[.int .i64 y, .int .i64 m, .int .i64 d] w fun e w' => e = .returned (.int .u64 (Fs.absDays y m d)) ∧ Qt w w' := by
  rcases jf_lit m1 m2 with ⟨hm, hj⟩ | ⟨hm, hj⟩
  · have HD : Hid (∀ Y : Nat, (Y : Int) = y + 292277022400 - 1 → Fs.absDays y m d = 146097 * (Y / 100) / 4 + (1461 * (Y % 100) / 4 + ((979 * (m + 12) - 2919) / 32 + d - 1))) := by
      intro Y hY
      have : Fs.aYear y m = Y := by unfold Fs.aYear; rw [hj]; omega
      unfold Fs.absDays Fs.aDay
      rw [this, hj]
    clear hj
    go_enter Tryd.func55, Tryd.ntmps55
    go_wp2
    go_ret
    refine ⟨ret_u ?_, Qt.refl _⟩
    obtain ⟨Y, hY⟩ : ∃ Y : Nat, (Y : Int) = y + 292277022400 - 1 := ⟨(y + 292277022400 - 1).toNat, by omega⟩
    have e : (IntKind.u64.wrap (IntKind.u64.wrap (IntKind.u64.wrap y - 1) + 292277022400)) = (Y : Int) := by simp only [IntKind.wrap_u64]; omega
    have t1 : (Y : Int).tdiv 100 = ((Y / 100 : Nat) : Int) := by rw [Int.tdiv_eq_ediv_of_nonneg (by omega)]; rfl
    have t2 : (Y : Int).tmod 100 = ((Y % 100 : Nat) : Int) := by rw [Int.tmod_eq_emod_of_nonneg (by omega)]; rfl
    rw [e, HD.out Y hY, t1, t2]
    have e2 : IntKind.u64.wrap ((Y / 100 : Nat) : Int) = ((Y / 100 : Nat) : Int) := u64_small (by omega)
    have e3 : IntKind.u64.wrap (146097 * ((Y / 100 : Nat) : Int)) = ((146097 * (Y / 100) : Nat) : Int) := u64_small (n := 146097 * (Y / 100)) (by omega)
    rw [e2, e3, Int.tdiv_eq_ediv_of_nonneg (by omega)]
    have hC : Y / 100 ≤ 3000000000 := by omega
    have hK : Y % 100 < 100 := by omega
    clear e e2 e3 t1 t2 HD hY
    generalize Y / 100 = C at *
    generalize Y % 100 = K at *
    have e5 : 1461 * (((K : Nat) : Int) % 4294967296) % 4294967296 / 4 = ((1461 * K / 4 : Nat) : Int) := e5_of hK
    have e6 : (979 * ((m : Int) + 12) - 2919) / 32 = (((979 * (m + 12) - 2919) / 32 : Nat) : Int) := e6_of m
    have e4 : IntKind.u64.wrap (((146097 * C : Nat) : Int) / 4) = ((146097 * C / 4 : Nat) : Int) := u64_small (n := 146097 * C / 4) (Nat.le_trans (p_of hC) (by decide))
    rw [e4, e5, e6]
    have b1 : 146097 * C / 4 ≤ 200000000000000 := p_of hC
    have b2 : 1461 * K / 4 ≤ 40000 := by omega
    have b3 : (979 * (m + 12) - 2919) / 32 ≤ 1000 := by omega
    clear e4 e5 e6 hC hK
    generalize 146097 * C / 4 = P at *
    generalize 1461 * K / 4 = Q at *
    generalize (979 * (m + 12) - 2919) / 32 = M at *
    simp only [IntKind.wrap_u64]
    omega
  · have HD : Hid (∀ Y : Nat, (Y : Int) = y + 292277022400 → Fs.absDays y m d = 146097 * (Y / 100) / 4 + (1461 * (Y % 100) / 4 + ((979 * m - 2919) / 32 + d - 1))) := by
      intro Y hY
      have : Fs.aYear y m = Y := by unfold Fs.aYear; rw [hj]; omega
      unfold Fs.absDays Fs.aDay
      rw [this, hj, Nat.mul_zero, Nat.add_zero]
    clear hj
    go_enter Tryd.func55, Tryd.ntmps55
    go_wp2
    go_ret
    refine ⟨ret_u ?_, Qt.refl _⟩
    obtain ⟨Y, hY⟩ : ∃ Y : Nat, (Y : Int) = y + 292277022400 := ⟨(y + 292277022400).toNat, by omega⟩
    have e : (IntKind.u64.wrap (IntKind.u64.wrap (IntKind.u64.wrap y) + 292277022400)) = (Y : Int) := by simp only [IntKind.wrap_u64]; omega
    have t1 : (Y : Int).tdiv 100 = ((Y / 100 : Nat) : Int) := by rw [Int.tdiv_eq_ediv_of_nonneg (by omega)]; rfl
    have t2 : (Y : Int).tmod 100 = ((Y % 100 : Nat) : Int) := by rw [Int.tmod_eq_emod_of_nonneg (by omega)]; rfl
    rw [e, HD.out Y hY, t1, t2]
    have e2 : IntKind.u64.wrap ((Y / 100 : Nat) : Int) = ((Y / 100 : Nat) : Int) := u64_small (by omega)
    have e3 : IntKind.u64.wrap (146097 * ((Y / 100 : Nat) : Int)) = ((146097 * (Y / 100) : Nat) : Int) := u64_small (n := 146097 * (Y / 100)) (by omega)
    rw [e2, e3, Int.tdiv_eq_ediv_of_nonneg (by omega)]
    have hC : Y / 100 ≤ 3000000000 := by omega
    have hK : Y % 100 < 100 := by omega
    clear e e2 e3 t1 t2 HD hY
    generalize Y / 100 = C at *
    generalize Y % 100 = K at *
    have e5 : 1461 * (((K : Nat) : Int) % 4294967296) % 4294967296 / 4 = ((1461 * K / 4 : Nat) : Int) := e5_of hK
    have e6 : (979 * (m : Int) - 2919) / 32 = (((979 * m - 2919) / 32 : Nat) : Int) := e6_of' hm
    have e4 : IntKind.u64.wrap (((146097 * C : Nat) : Int) / 4) = ((146097 * C / 4 : Nat) : Int) := u64_small (n := 146097 * C / 4) (Nat.le_trans (p_of hC) (by decide))
    rw [e4, e5, e6]
    have b1 : 146097 * C / 4 ≤ 200000000000000 := p_of hC
    have b2 : 1461 * K / 4 ≤ 40000 := by omega
    have b3 : (979 * m - 2919) / 32 ≤ 1000 := by omega
    clear e4 e5 e6 hC hK
    generalize 146097 * C / 4 = P at *
    generalize 1461 * K / 4 = Q at *
    generalize (979 * m - 2919) / 32 = M at *
    simp only [IntKind.wrap_u64]
    omega

theorem unixTime_any (u : Int) (h0 : -4000000000000000000 ≤ u) (h1 : u ≤ 4000000000000000000) (ns : Nat) (hn : ns ≤ 999999999) (w : World) :
    Calls Tryd.prog 56 #[.int .i64 u, .int .i32 ns] w fun e w' => e = .returned (timeV ns (u + 62135596800) (.pointer none)) ∧ Below w.heap.size w w' := by
  go_enter Tryd.func56, Tryd.ntmps56
  go_wp2
  exact bodyPost_ret (v := timeV ns (u + 62135596800) (.pointer none)) (by simp [results, Tryd.results56, go_sem, timeV]) rfl ⟨rfl, (Below.refl _ _).alloc (Nat.le_refl _) _⟩

/-- the place that a caller hands on: never nil -/
def PL (w : World) (lv : Value) (name : List UInt8) (off : Int) : Prop := ∃ g, lv = .pointer (some ⟨g, 0, none⟩) ∧ ((UtcLoc w g ∧ name = utcB ∧ off = 0) ∨ FixLoc w g name off)
theorem PL.below {w w' : World} {lv : Value} {name : List UInt8} {off : Int} (h : PL w lv name off) (hb : Below w.heap.size w w') : PL w' lv name off := by
  obtain ⟨g, e, h | h⟩ := h
  · exact ⟨g, e, .inl ⟨h.1.below hb, h.2⟩⟩
  · exact ⟨g, e, .inr (h.below hb)⟩
theorem PL.qt {w w' : World} {lv : Value} {name : List UInt8} {off : Int} (h : PL w lv name off) (hq : Qt w w') : PL w' lv name off := h.below (hq.below _)
theorem lookup_pl {w : World} {lv : Value} {name : List UInt8} {off : Int} (h : PL w lv name off) (sec : Int) (h0 : -9000000000000000000 ≤ sec) (h1 : sec ≤ 9000000000000000000) :
    Calls Tryd.prog 45 #[lv, .int .i64 sec] w fun e w' => e = .returned (lookV name off) ∧ Qt w w' := by
  obtain ⟨g, rfl, ⟨hU, rfl, rfl⟩ | hF⟩ := h
  · exact lookup_utc g sec w hU
  · exact lookup_fix g name off sec h0 h1 w hF

theorem tcell_set {w : World} {b ns : Nat} {ext : Int} {lv u : Value} (c0 : w.cell? ⟨b, 0, none⟩ = some (.int .u64 ns)) (c1 : w.cell? ⟨b, 1, none⟩ = some (.int .i64 ext)) {n : Nat} (c2 : (w.drewN n).cell? ⟨b, 2, none⟩ = some lv) (m : Nat) : TCell ((w.drewN n).setCell ⟨b, 2, none⟩ u) b ns ext u := by
  have d0 : (w.drewN n).cell? ⟨b, 0, none⟩ = some (.int .u64 ns) := c0
  have d1 : (w.drewN n).cell? ⟨b, 1, none⟩ = some (.int .i64 ext) := c1
  refine ⟨?_, ?_, ?_⟩ <;> go_simp
/-- setLoc: what is stored -/
theorem setLoc_utc (b ns : Nat) (hn : ns ≤ 999999999) (ext : Int) (lv : Value) (g : Nat) (w : World) (H : TCell w b ns ext lv) (hf : w.frozen? ⟨b, 2, none⟩ = false) (hU : UtcLoc w g) :
    Calls Tryd.prog 47 #[.pointer (some ⟨b, 0, none⟩), .pointer (some ⟨g, 0, none⟩)] w fun e w' => e = .returned (.tuple #[]) ∧ TCell w' b ns ext (.pointer none) ∧ Below b w w' := by
  have c0 := hU.c0
  go_enter Tryd.func47, Tryd.ntmps47
  go_wp2_with fail
  refine (stripMono_any b ns hn ext lv _ H).mono ?_
  rintro e w1 ⟨rfl, n, rfl⟩
  have c2 : (w.drewN n).cell? ⟨b, 2, none⟩ = some lv := H.c2
  have hf2 : (w.drewN n).frozen? ⟨b, 2, none⟩ = false := hf
  have K0 := hide H.c0
  have K1 := hide H.c1
  go_wp2
  go_end0
  exact ⟨rfl, tcell_set K0.out K1.out c2 0, (((Qt.refl w).drewN n).below b).setCell (Nat.le_refl _) _⟩
theorem setLoc_fix (b ns : Nat) (hn : ns ≤ 999999999) (ext : Int) (lv : Value) (g : Nat) (name : List UInt8) (off : Int) (w : World) (H : TCell w b ns ext lv) (hf : w.frozen? ⟨b, 2, none⟩ = false) (hF : FixLoc w g name off) :
    Calls Tryd.prog 47 #[.pointer (some ⟨b, 0, none⟩), .pointer (some ⟨g, 0, none⟩)] w fun e w' => e = .returned (.tuple #[]) ∧ TCell w' b ns ext (.pointer (some ⟨g, 0, none⟩)) ∧ Below b w w' := by
  have c0 := hF.c0
  go_enter Tryd.func47, Tryd.ntmps47
  go_wp2_with fail
  refine (stripMono_any b ns hn ext lv _ H).mono ?_
  rintro e w1 ⟨rfl, n, rfl⟩
  have c2 : (w.drewN n).cell? ⟨b, 2, none⟩ = some lv := H.c2
  have hf2 : (w.drewN n).frozen? ⟨b, 2, none⟩ = false := hf
  have K0 := hide H.c0
  have K1 := hide H.c1
  go_wp2
  go_end0
  exact ⟨rfl, tcell_set K0.out K1.out c2 0, (((Qt.refl w).drewN n).below b).setCell (Nat.le_refl _) _⟩

set_option maxRecDepth 100000 in
theorem Date_utc {y : Int} {m d h mi s ns : Nat} (y1 : -200000000 ≤ y) (y2 : y ≤ 200000000) (m1 : 1 ≤ m) (m2 : m ≤ 12) (d1 : 1 ≤ d) (d2 : d ≤ 31) (hc : Fs.VClock h mi s ns) (g : Nat) (w : World) (hU : UtcLoc w g) :
    Calls Tryd.prog 33 #[.int .i64 y, .int .i64 m, .int .i64 d, .int .i64 h, .int .i64 mi, .int .i64 s, .int .i64 ns, .pointer (some ⟨g, 0, none⟩)] w fun e w' => e = .returned (timeV ns (Fs.isecs y m d h mi s) (.pointer none)) ∧ Below w.heap.size w w' := by
  have HB := Fs.isecs_bd' y1 y2 m1 m2 d1 d2 hc
  obtain ⟨h1, h2, h3, h4⟩ := hc
  have HD := Fs.absDays_lt' y1 y2 m1 m2 d1 d2
  have HX : Hid (wrap64 (wrap64 (wrap64 ((Fs.absDays y m d : Int) * 86400) + ((h : Int) * 3600 + (mi : Int) * 60 + (s : Int))) + -9223372028741760000) = Fs.isecs y m d h mi s - 62135596800) := by
    have := unix_of (D := Fs.absDays y m d) (T := h * 3600 + mi * 60 + s) (by omega) (by omega) (by omega) (by omega)
    show _ = _
    unfold Fs.isecs
    rw [← this]
    simp
  have HU := hide (hU.below ((Below.refl _ _).alloc (Nat.le_refl _) (.cells #[.int .u64 0, .int .i64 0, .pointer none] 41)))
  clear hU
  go_enter Tryd.func33, Tryd.ntmps33
  go_wp2_with fail
  refine (norm_in y ((m : Int) - 1) 12 (by omega) (by omega) _).mono ?_
  rintro e w1 ⟨rfl, hq1⟩
  go_wp2_with fail
  refine (norm_in s ns 1000000000 (by omega) (by omega) _).mono ?_
  rintro e w2 ⟨rfl, hq2⟩
  go_wp2_with fail
  refine (norm_in mi s 60 (by omega) (by omega) _).mono ?_
  rintro e w3 ⟨rfl, hq3⟩
  go_wp2_with fail
  refine (norm_in h mi 60 (by omega) (by omega) _).mono ?_
  rintro e w4 ⟨rfl, hq4⟩
  go_wp2_with fail
  refine (norm_in d h 24 (by omega) (by omega) _).mono ?_
  rintro e w5 ⟨rfl, hq5⟩
  go_wp2_with fail
  refine (dateToAbsDays_any y1 y2 m1 m2 d1 d2 _).mono ?_
  rintro e w6 ⟨rfl, hq6⟩
  have hq := ((((hq1.trans hq2).trans hq3).trans hq4).trans hq5).trans hq6
  clear hq1 hq2 hq3 hq4 hq5 hq6
  go_wp2_with fail
  rw [HX.out]
  refine (lookup_utc g _ _ (HU.out.below (hq.below _))).mono ?_
  rintro e w7 ⟨rfl, hq7⟩
  unfold lookV utcB
  go_wp2_with fail
  refine (unixTime_any (Fs.isecs y m d h mi s - 62135596800) (by omega) (by omega) ns h4 _).mono ?_
  rintro e w8 ⟨rfl, hb8⟩
  rw [Int.sub_add_cancel]
  unfold timeV
  go_wp2_with fail
  have HB := ((hq.below (w.heap.size + 1)).trans (hq7.below _)).trans (hb8.mono (by rw [hq7.size, hq.size]; simp))
  have HU8 := HU.out.below (HB.mono (by simp))
  have hz := HB.size
  have HB0 := ((Below.refl w.heap.size w).alloc (Nat.le_refl _) (.cells #[.int .u64 0, .int .i64 0, .pointer none] 41)).trans (HB.mono (Nat.le_succ _))
  clear hq hq7 hb8 HX HU
  refine (setLoc_utc w8.heap.size ns h4 _ _ g _ (TCell.new w8 ns _ (.pointer none) _) (by go_simp) (HU8.below ((Below.refl _ _).alloc (Nat.le_refl _) _))).mono ?_
  rintro e w9 ⟨rfl, hT, hb9⟩
  obtain ⟨t0, t1, t2⟩ := hT
  have HB9 := HB.trans ((((Below.refl _ _).alloc (by simpa using hz) _).trans (hb9.mono (by simpa using hz))))
  have f0 : w9.cell? ⟨w.heap.size, 0, none⟩ = some (.int .u64 0) := (HB9.cell (by simp)).trans (by go_simp)
  have f1 : w9.cell? ⟨w.heap.size, 1, none⟩ = some (.int .i64 0) := (HB9.cell (by simp)).trans (by go_simp)
  have f2 : w9.cell? ⟨w.heap.size, 2, none⟩ = some (.pointer none) := (HB9.cell (by simp)).trans (by go_simp)
  have g0 : w9.frozen? ⟨w.heap.size, 0, none⟩ = false := (HB9.frozen (by simp)).trans (by go_simp)
  have g1 : w9.frozen? ⟨w.heap.size, 1, none⟩ = false := (HB9.frozen (by simp)).trans (by go_simp)
  have g2 : w9.frozen? ⟨w.heap.size, 2, none⟩ = false := (HB9.frozen (by simp)).trans (by go_simp)
  have HB0 := ((Below.refl w.heap.size w).alloc (Nat.le_refl _) (.cells #[.int .u64 0, .int .i64 0, .pointer none] 41)).trans (HB9.mono (Nat.le_succ _))
  clear HB9 HB hb9 HU8 hz
  go_wp2_with fail
  exact bodyPost_ret (v := timeV ns (Fs.isecs y m d h mi s) (.pointer none)) (by simp [results, Tryd.results33, go_sem, timeV, f0, f1, f2]) rfl ⟨rfl, ((HB0.setCell (Nat.le_refl _) _).setCell (Nat.le_refl _) _).setCell (Nat.le_refl _) _⟩
set_option maxRecDepth 100000 in
theorem Date_fix0 {y : Int} {m d h mi s ns : Nat} (y1 : -200000000 ≤ y) (y2 : y ≤ 200000000) (m1 : 1 ≤ m) (m2 : m ≤ 12) (d1 : 1 ≤ d) (d2 : d ≤ 31) (hc : Fs.VClock h mi s ns) (g : Nat) (name : List UInt8) (w : World) (hU : FixLoc w g name 0) :
    Calls Tryd.prog 33 #[.int .i64 y, .int .i64 m, .int .i64 d, .int .i64 h, .int .i64 mi, .int .i64 s, .int .i64 ns, .pointer (some ⟨g, 0, none⟩)] w fun e w' => e = .returned (timeV ns (Fs.isecs y m d h mi s) (.pointer (some ⟨g, 0, none⟩))) ∧ Below w.heap.size w w' := by
  have HB := Fs.isecs_bd' y1 y2 m1 m2 d1 d2 hc
  obtain ⟨h1, h2, h3, h4⟩ := hc
  have HD := Fs.absDays_lt' y1 y2 m1 m2 d1 d2
  have HX : Hid (wrap64 (wrap64 (wrap64 ((Fs.absDays y m d : Int) * 86400) + ((h : Int) * 3600 + (mi : Int) * 60 + (s : Int))) + -9223372028741760000) = Fs.isecs y m d h mi s - 62135596800) := by
    have := unix_of (D := Fs.absDays y m d) (T := h * 3600 + mi * 60 + s) (by omega) (by omega) (by omega) (by omega)
    show _ = _
    unfold Fs.isecs
    rw [← this]
    simp
  have HU := hide (hU.below ((Below.refl _ _).alloc (Nat.le_refl _) (.cells #[.int .u64 0, .int .i64 0, .pointer none] 41)))
  clear hU
  go_enter Tryd.func33, Tryd.ntmps33
  go_wp2_with fail
  refine (norm_in y ((m : Int) - 1) 12 (by omega) (by omega) _).mono ?_
  rintro e w1 ⟨rfl, hq1⟩
  go_wp2_with fail
  refine (norm_in s ns 1000000000 (by omega) (by omega) _).mono ?_
  rintro e w2 ⟨rfl, hq2⟩
  go_wp2_with fail
  refine (norm_in mi s 60 (by omega) (by omega) _).mono ?_
  rintro e w3 ⟨rfl, hq3⟩
  go_wp2_with fail
  refine (norm_in h mi 60 (by omega) (by omega) _).mono ?_
  rintro e w4 ⟨rfl, hq4⟩
  go_wp2_with fail
  refine (norm_in d h 24 (by omega) (by omega) _).mono ?_
  rintro e w5 ⟨rfl, hq5⟩
  go_wp2_with fail
  refine (dateToAbsDays_any y1 y2 m1 m2 d1 d2 _).mono ?_
  rintro e w6 ⟨rfl, hq6⟩
  have hq := ((((hq1.trans hq2).trans hq3).trans hq4).trans hq5).trans hq6
  clear hq1 hq2 hq3 hq4 hq5 hq6
  go_wp2_with fail
  rw [HX.out]
  refine (lookup_fix g name 0 _ (by omega) (by omega) _ (HU.out.below (hq.below _))).mono ?_
  rintro e w7 ⟨rfl, hq7⟩
  unfold lookV
  go_wp2_with fail
  refine (unixTime_any (Fs.isecs y m d h mi s - 62135596800) (by omega) (by omega) ns h4 _).mono ?_
  rintro e w8 ⟨rfl, hb8⟩
  rw [Int.sub_add_cancel]
  unfold timeV
  go_wp2_with fail
  have HB := ((hq.below (w.heap.size + 1)).trans (hq7.below _)).trans (hb8.mono (by rw [hq7.size, hq.size]; simp))
  have HU8 := HU.out.below (HB.mono (by simp))
  have hz := HB.size
  have HB0 := ((Below.refl w.heap.size w).alloc (Nat.le_refl _) (.cells #[.int .u64 0, .int .i64 0, .pointer none] 41)).trans (HB.mono (Nat.le_succ _))
  clear hq hq7 hb8 HX HU
  refine (setLoc_fix w8.heap.size ns h4 _ _ g name 0 _ (TCell.new w8 ns _ (.pointer none) _) (by go_simp) (HU8.below ((Below.refl _ _).alloc (Nat.le_refl _) _))).mono ?_
  rintro e w9 ⟨rfl, hT, hb9⟩
  obtain ⟨t0, t1, t2⟩ := hT
  have HB9 := HB.trans ((((Below.refl _ _).alloc (by simpa using hz) _).trans (hb9.mono (by simpa using hz))))
  have f0 : w9.cell? ⟨w.heap.size, 0, none⟩ = some (.int .u64 0) := (HB9.cell (by simp)).trans (by go_simp)
  have f1 : w9.cell? ⟨w.heap.size, 1, none⟩ = some (.int .i64 0) := (HB9.cell (by simp)).trans (by go_simp)
  have f2 : w9.cell? ⟨w.heap.size, 2, none⟩ = some (.pointer none) := (HB9.cell (by simp)).trans (by go_simp)
  have g0 : w9.frozen? ⟨w.heap.size, 0, none⟩ = false := (HB9.frozen (by simp)).trans (by go_simp)
  have g1 : w9.frozen? ⟨w.heap.size, 1, none⟩ = false := (HB9.frozen (by simp)).trans (by go_simp)
  have g2 : w9.frozen? ⟨w.heap.size, 2, none⟩ = false := (HB9.frozen (by simp)).trans (by go_simp)
  have HB0 := ((Below.refl w.heap.size w).alloc (Nat.le_refl _) (.cells #[.int .u64 0, .int .i64 0, .pointer none] 41)).trans (HB9.mono (Nat.le_succ _))
  clear HB9 HB hb9 HU8 hz
  go_wp2_with fail
  exact bodyPost_ret (v := timeV ns (Fs.isecs y m d h mi s) (.pointer (some ⟨g, 0, none⟩))) (by simp [results, Tryd.results33, go_sem, timeV, f0, f1, f2]) rfl ⟨rfl, ((HB0.setCell (Nat.le_refl _) _).setCell (Nat.le_refl _) _).setCell (Nat.le_refl _) _⟩
set_option maxRecDepth 100000 in
theorem Date_fixn {y : Int} {m d h mi s ns : Nat} (y1 : -200000000 ≤ y) (y2 : y ≤ 200000000) (m1 : 1 ≤ m) (m2 : m ≤ 12) (d1 : 1 ≤ d) (d2 : d ≤ 31) (hc : Fs.VClock h mi s ns) (g : Nat) (name : List UInt8) (off : Int) (o1 : -100000 ≤ off) (o2 : off ≤ 100000) (ho : off ≠ 0) (w : World) (hU : FixLoc w g name off) :
    Calls Tryd.prog 33 #[.int .i64 y, .int .i64 m, .int .i64 d, .int .i64 h, .int .i64 mi, .int .i64 s, .int .i64 ns, .pointer (some ⟨g, 0, none⟩)] w fun e w' => e = .returned (timeV ns (Fs.isecs y m d h mi s - off) (.pointer (some ⟨g, 0, none⟩))) ∧ Below w.heap.size w w' := by
  have HB := Fs.isecs_bd' y1 y2 m1 m2 d1 d2 hc
  obtain ⟨h1, h2, h3, h4⟩ := hc
  have hob : (off != 0) = true := by simpa using ho
  clear ho
  have HD := Fs.absDays_lt' y1 y2 m1 m2 d1 d2
  have HX : Hid (wrap64 (wrap64 (wrap64 ((Fs.absDays y m d : Int) * 86400) + ((h : Int) * 3600 + (mi : Int) * 60 + (s : Int))) + -9223372028741760000) = Fs.isecs y m d h mi s - 62135596800) := by
    have := unix_of (D := Fs.absDays y m d) (T := h * 3600 + mi * 60 + s) (by omega) (by omega) (by omega) (by omega)
    show _ = _
    unfold Fs.isecs
    rw [← this]
    simp
  have HU := hide (hU.below ((Below.refl _ _).alloc (Nat.le_refl _) (.cells #[.int .u64 0, .int .i64 0, .pointer none] 41)))
  clear hU
  go_enter Tryd.func33, Tryd.ntmps33
  go_wp2_with fail
  refine (norm_in y ((m : Int) - 1) 12 (by omega) (by omega) _).mono ?_
  rintro e w1 ⟨rfl, hq1⟩
  go_wp2_with fail
  refine (norm_in s ns 1000000000 (by omega) (by omega) _).mono ?_
  rintro e w2 ⟨rfl, hq2⟩
  go_wp2_with fail
  refine (norm_in mi s 60 (by omega) (by omega) _).mono ?_
  rintro e w3 ⟨rfl, hq3⟩
  go_wp2_with fail
  refine (norm_in h mi 60 (by omega) (by omega) _).mono ?_
  rintro e w4 ⟨rfl, hq4⟩
  go_wp2_with fail
  refine (norm_in d h 24 (by omega) (by omega) _).mono ?_
  rintro e w5 ⟨rfl, hq5⟩
  go_wp2_with fail
  refine (dateToAbsDays_any y1 y2 m1 m2 d1 d2 _).mono ?_
  rintro e w6 ⟨rfl, hq6⟩
  have hq := ((((hq1.trans hq2).trans hq3).trans hq4).trans hq5).trans hq6
  clear hq1 hq2 hq3 hq4 hq5 hq6
  go_wp2_with fail
  rw [HX.out]
  refine (lookup_fix g name off _ (by omega) (by omega) _ (HU.out.below (hq.below _))).mono ?_
  rintro e w7 ⟨rfl, hq7⟩
  unfold lookV
  go_wp2_with fail
  refine (unixTime_any (Fs.isecs y m d h mi s - 62135596800 - off) (by omega) (by omega) ns h4 _).mono ?_
  rintro e w8 ⟨rfl, hb8⟩
  rw [show Fs.isecs y m d h mi s - 62135596800 - off + 62135596800 = Fs.isecs y m d h mi s - off by omega]
  unfold timeV
  go_wp2_with fail
  have HB := ((hq.below (w.heap.size + 1)).trans (hq7.below _)).trans (hb8.mono (by rw [hq7.size, hq.size]; simp))
  have HU8 := HU.out.below (HB.mono (by simp))
  have hz := HB.size
  have HB0 := ((Below.refl w.heap.size w).alloc (Nat.le_refl _) (.cells #[.int .u64 0, .int .i64 0, .pointer none] 41)).trans (HB.mono (Nat.le_succ _))
  clear hq hq7 hb8 HX HU
  refine (setLoc_fix w8.heap.size ns h4 _ _ g name off _ (TCell.new w8 ns _ (.pointer none) _) (by go_simp) (HU8.below ((Below.refl _ _).alloc (Nat.le_refl _) _))).mono ?_
  rintro e w9 ⟨rfl, hT, hb9⟩
  obtain ⟨t0, t1, t2⟩ := hT
  have HB9 := HB.trans ((((Below.refl _ _).alloc (by simpa using hz) _).trans (hb9.mono (by simpa using hz))))
  have f0 : w9.cell? ⟨w.heap.size, 0, none⟩ = some (.int .u64 0) := (HB9.cell (by simp)).trans (by go_simp)
  have f1 : w9.cell? ⟨w.heap.size, 1, none⟩ = some (.int .i64 0) := (HB9.cell (by simp)).trans (by go_simp)
  have f2 : w9.cell? ⟨w.heap.size, 2, none⟩ = some (.pointer none) := (HB9.cell (by simp)).trans (by go_simp)
  have g0 : w9.frozen? ⟨w.heap.size, 0, none⟩ = false := (HB9.frozen (by simp)).trans (by go_simp)
  have g1 : w9.frozen? ⟨w.heap.size, 1, none⟩ = false := (HB9.frozen (by simp)).trans (by go_simp)
  have g2 : w9.frozen? ⟨w.heap.size, 2, none⟩ = false := (HB9.frozen (by simp)).trans (by go_simp)
  have HB0 := ((Below.refl w.heap.size w).alloc (Nat.le_refl _) (.cells #[.int .u64 0, .int .i64 0, .pointer none] 41)).trans (HB9.mono (Nat.le_succ _))
  clear HB9 HB hb9 HU8 hz
  go_wp2_with fail
  exact bodyPost_ret (v := timeV ns (Fs.isecs y m d h mi s - off) (.pointer (some ⟨g, 0, none⟩))) (by simp [results, Tryd.results33, go_sem, timeV, f0, f1, f2]) rfl ⟨rfl, ((HB0.setCell (Nat.le_refl _) _).setCell (Nat.le_refl _) _).setCell (Nat.le_refl _) _⟩

/-- DATE, at any place with one offset -/
theorem Date_any {y : Int} {m d h mi s ns : Nat} (y1 : -200000000 ≤ y) (y2 : y ≤ 200000000) (m1 : 1 ≤ m) (m2 : m ≤ 12) (d1 : 1 ≤ d) (d2 : d ≤ 31) (hc : Fs.VClock h mi s ns) {lv : Value} {name : List UInt8} {off : Int} (o1 : -100000 ≤ off) (o2 : off ≤ 100000) (w : World) (hP : PL w lv name off) :
    Calls Tryd.prog 33 #[.int .i64 y, .int .i64 m, .int .i64 d, .int .i64 h, .int .i64 mi, .int .i64 s, .int .i64 ns, lv] w fun e w' => ∃ lv', e = .returned (timeV ns (Fs.isecs y m d h mi s - off) lv') ∧ TL w' lv' name off ∧ Below w.heap.size w w' := by
  obtain ⟨g, rfl, ⟨hU, rfl, rfl⟩ | hF⟩ := hP
  · refine (Date_utc y1 y2 m1 m2 d1 d2 hc g w hU).mono ?_
    rintro e w' ⟨rfl, hb⟩
    exact ⟨_, by rw [Int.sub_zero], .inl ⟨rfl, rfl, rfl⟩, hb⟩
  · by_cases h0 : off = 0
    · subst h0
      refine (Date_fix0 y1 y2 m1 m2 d1 d2 hc g name w hF).mono ?_
      rintro e w' ⟨rfl, hb⟩
      exact ⟨_, by rw [Int.sub_zero], .inr ⟨g, rfl, hF.below hb⟩, hb⟩
    · refine (Date_fixn y1 y2 m1 m2 d1 d2 hc g name off o1 o2 h0 w hF).mono ?_
      rintro e w' ⟨rfl, hb⟩
      exact ⟨_, rfl, .inr ⟨g, rfl, hF.below hb⟩, hb⟩
theorem Date_told {y : Int} {m d h mi s ns : Nat} (hv : Fs.Valid y m d) (hc : Fs.VClock h mi s ns) {lv : Value} {name : List UInt8} {off : Int} (o1 : -100000 ≤ off) (o2 : off ≤ 100000) (w : World) (hP : PL w lv name off) :
    Calls Tryd.prog 33 #[.int .i64 y, .int .i64 m, .int .i64 d, .int .i64 h, .int .i64 mi, .int .i64 s, .int .i64 ns, lv] w fun e w' => ∃ v, e = .returned v ∧ Told w' v y m d h mi s ns name off ∧ Below w.heap.size w w' := by
  refine (Date_any hv.y1 hv.y2 hv.m1 hv.m2 hv.d1 hv.d31 hc o1 o2 w hP).mono ?_
  rintro e w' ⟨lv', rfl, hT, hb⟩
  exact ⟨_, rfl, ⟨⟨lv', rfl, hT⟩, hv, hc, o1, o2⟩, hb⟩
/-- the place of a zone -/
theorem place_any (name : List UInt8) (off : Int) (w : World) :
    Calls Tryd.prog 34 #[.agg #[.string ⟨name.toArray⟩, .int .i64 off]] w fun e w' => ∃ lv, e = .returned lv ∧ PL w' lv name off ∧ Below w.heap.size w w' := by
  by_cases h : name = utcB ∧ off = 0
  · obtain ⟨rfl, rfl⟩ := h
    refine (place_utc w).mono ?_
    rintro e w' ⟨rfl, hU, hb⟩
    exact ⟨_, rfl, ⟨_, rfl, .inl ⟨hU, rfl, rfl⟩⟩, hb⟩
  · refine (place_fix name off h w).mono ?_
    rintro e w' ⟨rfl, hF, hb⟩
    exact ⟨_, rfl, ⟨_, rfl, .inr hF⟩, hb⟩
end Go.Proofs.YtgcjhakhepgjlaaDoor

/-
  WALKS, times, part f: the thin package's times: at, civil.
-/
namespace Go.Proofs.YtgcjhakhepgjlaaDoor
open Go.RowKit
set_option linter.unusedVariables false
attribute [local go_sem] ByteArray.extract_mk get_mk ByteArray.toList_mk ByteArray.mk_append_mk take_drop_len

def civilV (y : Int) (m d h mi s ns : Int) (name : List UInt8) (off : Int) : Value := .agg #[.int .i64 y, .int .i64 m, .int .i64 d, .int .i64 h, .int .i64 mi, .int .i64 s, .int .i64 ns, .string ⟨name.toArray⟩, .int .i64 off]
theorem keepC {w w' : World} (hb : Below w.heap.size w w') : Hid (∀ p v, w.cell? p = some v → w'.cell? p = some v) := fun p v h => Below.cellk hb h
theorem keepF {w w' : World} (hb : Below w.heap.size w w') : Hid (∀ p v, w.cell? p = some v → w.frozen? p = false → w'.frozen? p = false) := fun p v h hf => (hb.frozen (cell_lt h)).trans hf
theorem FixLoc.set {w : World} {g b i : Nat} {name : List UInt8} {off : Int} {k : IntKind} {x : Int} (h : FixLoc w g name off) (hc : w.cell? ⟨b, 0, none⟩ = some (.int k x)) (u : Value) : FixLoc (w.setCell ⟨b, i, none⟩ u) g name off := by
  obtain ⟨c0, c5, c6, z, c2, c7, z0, z1, z2⟩ := h
  have hg : b ≠ g := by rintro rfl; rw [c0] at hc; cases hc
  have hz : b ≠ z := by rintro rfl; rw [z0] at hc; cases hc
  have kg : ∀ j, (w.setCell ⟨b, i, none⟩ u).cell? ⟨g, j, none⟩ = w.cell? ⟨g, j, none⟩ := fun j => World.cell?_setCell_other w _ _ u (fun e => hg (by injection e))
  have kz : ∀ j, (w.setCell ⟨b, i, none⟩ u).cell? ⟨z, j, none⟩ = w.cell? ⟨z, j, none⟩ := fun j => World.cell?_setCell_other w _ _ u (fun e => hz (by injection e))
  exact ⟨(kg _).trans c0, (kg _).trans c5, (kg _).trans c6, z, (kg _).trans c2, (kg _).trans c7, (kz _).trans z0, (kz _).trans z1, (kz _).trans z2⟩
theorem TL.set {w : World} {lv : Value} {b i : Nat} {name : List UInt8} {off : Int} {k : IntKind} {x : Int} (h : TL w lv name off) (hc : w.cell? ⟨b, 0, none⟩ = some (.int k x)) (u : Value) : TL (w.setCell ⟨b, i, none⟩ u) lv name off := by
  rcases h with h | ⟨g, e, h⟩
  · exact .inl h
  · exact .inr ⟨g, e, h.set hc u⟩
theorem atS_new (w : World) (y m d h mi s ns off : Int) (nm : ByteArray) : let w' := (w.alloc (.cells #[.int .i64 y, .int .i64 m, .int .i64 d, .int .i64 h, .int .i64 mi, .int .i64 s, .int .i64 ns, .string nm, .int .i64 off] 27)).alloc (.cells #[.int .u64 0, .int .i64 0, .pointer none] 41)
    w'.cell? ⟨w.heap.size, 0, none⟩ = some (.int .i64 y) ∧ w'.cell? ⟨w.heap.size, 1, none⟩ = some (.int .i64 m) ∧ w'.cell? ⟨w.heap.size, 2, none⟩ = some (.int .i64 d) ∧ w'.cell? ⟨w.heap.size, 3, none⟩ = some (.int .i64 h) ∧ w'.cell? ⟨w.heap.size, 4, none⟩ = some (.int .i64 mi) ∧
      w'.cell? ⟨w.heap.size, 5, none⟩ = some (.int .i64 s) ∧ w'.cell? ⟨w.heap.size, 6, none⟩ = some (.int .i64 ns) ∧ w'.cell? ⟨w.heap.size, 7, none⟩ = some (.string nm) ∧ w'.cell? ⟨w.heap.size, 8, none⟩ = some (.int .i64 off) ∧
      w'.cell? ⟨w.heap.size + 1, 0, none⟩ = some (.int .u64 0) ∧ w'.cell? ⟨w.heap.size + 1, 1, none⟩ = some (.int .i64 0) ∧ w'.cell? ⟨w.heap.size + 1, 2, none⟩ = some (.pointer none) ∧ w'.frozen? ⟨w.heap.size + 1, 0, none⟩ = false ∧ w'.frozen? ⟨w.heap.size + 1, 1, none⟩ = false ∧ w'.frozen? ⟨w.heap.size + 1, 2, none⟩ = false := by
  refine ⟨?_, ?_, ?_, ?_, ?_, ?_, ?_, ?_, ?_, ?_, ?_, ?_, ?_, ?_, ?_⟩ <;> go_simp
set_option maxRecDepth 100000 in
theorem at_any {y : Int} {m d h mi s ns : Nat} (hv : Fs.Valid y m d) (hc : Fs.VClock h mi s ns) {name : List UInt8} {off : Int} (o1 : -100000 ≤ off) (o2 : off ≤ 100000) (w : World) :
    Calls Tryd.prog 21 #[civilV y m d h mi s ns name off] w fun e w' => ∃ v, e = .returned v ∧ Told w' v y m d h mi s ns name off ∧ Below w.heap.size w w' := by
  unfold civilV
  go_enter Tryd.func21, Tryd.ntmps21
  go_wp2_with fail
  have hsz : w.heap.size + 2 = ((w.alloc (.cells #[.int .i64 y, .int .i64 m, .int .i64 d, .int .i64 h, .int .i64 mi, .int .i64 s, .int .i64 ns, .string ⟨name.toArray⟩, .int .i64 off] 27)).alloc (.cells #[.int .u64 0, .int .i64 0, .pointer none] 41)).heap.size := by simp
  have hB : Below w.heap.size w ((w.alloc (.cells #[.int .i64 y, .int .i64 m, .int .i64 d, .int .i64 h, .int .i64 mi, .int .i64 s, .int .i64 ns, .string ⟨name.toArray⟩, .int .i64 off] 27)).alloc (.cells #[.int .u64 0, .int .i64 0, .pointer none] 41)) := ((Below.refl _ _).alloc (Nat.le_refl _) _).alloc (by simp) _
  have HC := hide (atS_new w y m d h mi s ns off ⟨name.toArray⟩)
  generalize ((w.alloc (.cells #[.int .i64 y, .int .i64 m, .int .i64 d, .int .i64 h, .int .i64 mi, .int .i64 s, .int .i64 ns, .string ⟨name.toArray⟩, .int .i64 off] 27)).alloc (.cells #[.int .u64 0, .int .i64 0, .pointer none] 41)) = W at hsz hB HC ⊢
  have hlt : w.heap.size + 1 < W.heap.size := by omega
  clear hsz
  have HB := hide hB
  clear hB
  generalize hH : w.heap.size = H at *
  have HH := hide hH
  clear hH
  obtain ⟨c0, c1, c2, c3, c4, c5, c6, c7, c8, t0, t1, t2, f0, f1, f2⟩ := HC.out
  clear HC
  have T0 := hide t0
  have T1 := hide t1
  have T2 := hide t2
  have F0 := hide f0
  have F1 := hide f1
  have F2 := hide f2
  clear t0 t1 t2 f0 f1 f2
  go_region_held3 (fun w' => w'.cell? ⟨H, 0, none⟩ = some (.int .i64 y) ∧ w'.cell? ⟨H, 1, none⟩ = some (.int .i64 m) ∧ w'.cell? ⟨H, 2, none⟩ = some (.int .i64 d) ∧ w'.cell? ⟨H, 3, none⟩ = some (.int .i64 h) ∧ w'.cell? ⟨H, 4, none⟩ = some (.int .i64 mi) ∧
      w'.cell? ⟨H, 5, none⟩ = some (.int .i64 s) ∧ w'.cell? ⟨H, 6, none⟩ = some (.int .i64 ns) ∧ w'.cell? ⟨H, 7, none⟩ = some (.string ⟨name.toArray⟩) ∧ w'.cell? ⟨H, 8, none⟩ = some (.int .i64 off))
    (first | go_keep | (go_split_ands; exact ⟨HK.out _ _ ‹_›, HK.out _ _ ‹_›, HK.out _ _ ‹_›, HK.out _ _ ‹_›, HK.out _ _ ‹_›, HK.out _ _ ‹_›, HK.out _ _ ‹_›, HK.out _ _ ‹_›, HK.out _ _ ‹_›⟩))
    (first
      | (go_at_call 34; refine (place_any name off _).mono ?_; rintro e w1 ⟨lv, rfl, hP, hb⟩; have HP := hide hP; have HK := keepC hb; have HF := keepF hb; have HB1 := hide hb; clear hP hb)
      | (go_at_call 33; refine (Date_any hv.y1 hv.y2 hv.m1 hv.m2 hv.d1 hv.d31 hc o1 o2 _ HP.out).mono ?_; rintro e w2 ⟨lv', rfl, hT, hb⟩; (obtain ⟨q, rfl⟩ := hT.ptr); unfold timeV; have HK2 := keepC hb
         have t0 := HK2.out _ _ (HK.out _ _ T0.out)
         have t1 := HK2.out _ _ (HK.out _ _ T1.out)
         have t2 := HK2.out _ _ (HK.out _ _ T2.out)
         have f0 := (keepF hb).out _ _ (HK.out _ _ T0.out) (HF.out _ _ T0.out F0.out)
         have f1 := (keepF hb).out _ _ (HK.out _ _ T1.out) (HF.out _ _ T1.out F1.out)
         have f2 := (keepF hb).out _ _ (HK.out _ _ T2.out) (HF.out _ _ T2.out F2.out)
         have HT := hide hT; have HKX := HK; clear HK; have HK := HK2; have HB2 := hide hb; clear hT hb))
  go_wp2_with fail
  have e0 : (w2.setCell ⟨H + 1, 0, none⟩ (.int .u64 (ns : Int))).cell? ⟨H + 1, 0, none⟩ = some (.int .u64 (ns : Int)) := by go_simp
  have e1 : ((w2.setCell ⟨H + 1, 0, none⟩ (.int .u64 (ns : Int))).setCell ⟨H + 1, 1, none⟩ (.int .i64 (Fs.isecs y m d h mi s - off))).cell? ⟨H + 1, 0, none⟩ = some (.int .u64 (ns : Int)) := by go_simp
  have hTT := ((HT.out.set (i := 0) t0 (.int .u64 (ns : Int))).set (i := 1) e0 (.int .i64 (Fs.isecs y m d h mi s - off))).set (i := 2) e1 (.pointer q)
  have b0 := HB.out
  have hB1 := HB1.out
  have hB2 := HB2.out
  have s1 := hB1.size
  have b1 := hB1.mono (B' := H) (by simp at s1 ⊢; omega)
  have b2 := (b0.drew.trans b1).trans (hB2.mono (B' := H) (by simp at s1 ⊢; omega))
  refine bodyPost_ret (v := timeV ns (Fs.isecs y m d h mi s - off) (.pointer q)) (by simp [results, Tryd.results21, go_sem, timeV, t0, t1, t2]) rfl ⟨_, rfl, ⟨⟨_, rfl, hTT⟩, hv, hc, o1, o2⟩, ?_⟩
  rw [HH.out]
  exact ((b2.setCell (by simp) _).setCell (by simp) _).setCell (by simp) _
end Go.Proofs.YtgcjhakhepgjlaaDoor
