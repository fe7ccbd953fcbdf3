/-
  THE PLAIN MODEL, calendar: the day's number of a date, and its way back, as the library reckons them. Nothing of the program is imported.
-/
import Derived.Test.YtgcjhakhepgjlaaDoorFs
import Derived.Test.YtgcjhakhepgjlaaDoorFx
namespace Go.Proofs.YtgcjhakhepgjlaaDoor.Fs
set_option linter.unusedVariables false

def jf (m : Nat) : Nat := if m < 3 then 1 else 0
def aYear (y : Int) (m : Nat) : Nat := (y + 292277022400 - jf m).toNat
def aDay (m d : Nat) : Nat := (979 * (m + 12 * jf m) - 2919) / 32 + d - 1
/-- the day's number -/
def absDays (y : Int) (m d : Nat) : Nat := 146097 * (aYear y m / 100) / 4 + (1461 * (aYear y m % 100) / 4 + aDay m d)
def leap (y : Int) : Bool := y % 4 == 0 && (y % 100 != 0 || y % 400 == 0)
def monthLen (y : Int) (m : Nat) : Nat := if m = 2 then (if leap y then 29 else 28) else if m = 4 ∨ m = 6 ∨ m = 9 ∨ m = 11 then 30 else 31
structure Valid (y : Int) (m d : Nat) : Prop where
  m1 : 1 ≤ m
  m2 : m ≤ 12
  d1 : 1 ≤ d
  d2 : d ≤ monthLen y m
  y1 : -200000000 ≤ y
  y2 : y ≤ 200000000

theorem Valid.m12 {y : Int} {m d : Nat} (h : Valid y m d) : m = 1 ∨ m = 2 ∨ m = 3 ∨ m = 4 ∨ m = 5 ∨ m = 6 ∨ m = 7 ∨ m = 8 ∨ m = 9 ∨ m = 10 ∨ m = 11 ∨ m = 12 := by have := h.m1; have := h.m2; omega
theorem jf_le (m : Nat) : jf m ≤ 1 := by unfold jf; split <;> omega
theorem aYear_int {y : Int} {m d : Nat} (h : Valid y m d) : (aYear y m : Int) = y + 292277022400 - jf m := by
  have := h.y1; have := jf_le m; unfold aYear; omega
theorem leap_iff (y : Int) : leap y = true ↔ y % 4 = 0 ∧ (y % 100 ≠ 0 ∨ y % 400 = 0) := by simp [leap]
theorem aDay_le {y : Int} {m d : Nat} (h : Valid y m d) : aDay m d ≤ 365 ∧ (aDay m d = 365 → m = 2 ∧ leap y = true) := by
  have hm := h.m12
  obtain ⟨h1, h2, h3, h4, h5, h6⟩ := h
  cases hl : leap y <;> rcases hm with rfl | rfl | rfl | rfl | rfl | rfl | rfl | rfl | rfl | rfl | rfl | rfl <;> simp [monthLen, hl, aDay, jf] at h4 ⊢ <;> omega
/-- the day's number taken apart -/
theorem split_abs {y : Int} {m d : Nat} (h : Valid y m d) :
    (4 * absDays y m d + 3) / 146097 = aYear y m / 100 ∧ ((4 * absDays y m d + 3) % 146097) / 4 * 4 + 3 = 4 * (1461 * (aYear y m % 100) / 4 + aDay m d) + 3 ∧
    (4 * (1461 * (aYear y m % 100) / 4 + aDay m d) + 3) / 1461 = aYear y m % 100 ∧ (4 * (1461 * (aYear y m % 100) / 4 + aDay m d) + 3) % 1461 / 4 = aDay m d := by
  obtain ⟨hA, hA2⟩ := aDay_le h
  have hL : aDay m d = 365 → (aYear y m + 1) % 4 = 0 ∧ ((aYear y m + 1) % 100 ≠ 0 ∨ (aYear y m + 1) % 400 = 0) := by
    intro e
    obtain ⟨rfl, hl⟩ := hA2 e
    have hI := aYear_int h
    rw [leap_iff] at hl
    rw [show jf 2 = 1 from rfl] at hI
    omega
  unfold absDays
  generalize aDay m d = A at *
  generalize aYear y m = Y at *
  obtain ⟨C, hC⟩ : ∃ C, Y / 100 = C := ⟨_, rfl⟩
  obtain ⟨K, hK⟩ : ∃ K, Y % 100 = K := ⟨_, rfl⟩
  have hY : Y = 100 * C + K := by omega
  have hK2 : K < 100 := by omega
  rw [hC, hK]
  have h1 : A = 365 → K % 4 = 3 ∧ (K = 99 → C % 4 = 3) := by
    intro e
    have := hL e
    omega
  clear hL hA2 hC hK hY h
  obtain ⟨q, r, hr, rfl⟩ : ∃ q r, r < 4 ∧ K = 4 * q + r := ⟨K / 4, K % 4, by omega, by omega⟩
  obtain ⟨p, s, hs, rfl⟩ : ∃ q r, r < 4 ∧ C = 4 * q + r := ⟨C / 4, C % 4, by omega, by omega⟩
  have hr4 : r = 0 ∨ r = 1 ∨ r = 2 ∨ r = 3 := by omega
  have hs4 : s = 0 ∨ s = 1 ∨ s = 2 ∨ s = 3 := by omega
  rcases hr4 with rfl | rfl | rfl | rfl <;> rcases hs4 with rfl | rfl | rfl | rfl <;> (refine ⟨?_, ?_, ?_, ?_⟩ <;> omega)
/-- .. the month and the day of the month -/
theorem month_abs {y : Int} {m d : Nat} (h : Valid y m d) : (2141 * aDay m d + 197913) / 65536 = m + 12 * jf m ∧ (2141 * aDay m d + 197913) % 65536 / 2141 + 1 = d ∧ (306 ≤ aDay m d ↔ jf m = 1) := by
  have hm := h.m12
  obtain ⟨h1, h2, h3, h4, -, -⟩ := h
  have h5 : monthLen y m ≤ 31 := by unfold monthLen; (repeat' split) <;> omega
  have h6 : m = 2 → monthLen y m ≤ 29 := by rintro rfl; simp [monthLen]; split <;> omega
  have h7 : (m = 4 ∨ m = 6 ∨ m = 9 ∨ m = 11) → monthLen y m = 30 := by intro e; unfold monthLen; rw [if_neg (by omega), if_pos e]
  generalize monthLen y m = L at *
  rcases hm with rfl | rfl | rfl | rfl | rfl | rfl | rfl | rfl | rfl | rfl | rfl | rfl <;> simp [aDay, jf] at * <;> omega
/-- .. and the year -/
theorem year_abs {y : Int} {m d : Nat} (h : Valid y m d) : ((aYear y m / 100 * 100 + aYear y m % 100 + jf m : Nat) : Int) = y + 292277022400 := by
  have := aYear_int h
  have := jf_le m
  omega
theorem absDays_lt {y : Int} {m d : Nat} (h : Valid y m d) : 106678900000000 ≤ absDays y m d ∧ absDays y m d ≤ 106825100000000 := by
  have hA := (aDay_le h).1
  have hI := aYear_int h
  have := h.y1
  have := h.y2
  have := jf_le m
  unfold absDays
  generalize aDay m d = A at *
  generalize aYear y m = Y at *
  omega

/-- the day of the year -/
def cum (m : Nat) : Nat := match m with
  | 1 => 0 | 2 => 31 | 3 => 59 | 4 => 90 | 5 => 120 | 6 => 151 | 7 => 181 | 8 => 212 | 9 => 243 | 10 => 273 | 11 => 304 | 12 => 334 | _ => 0
def yearDay (y : Int) (m d : Nat) : Nat := d + cum m + (if 2 < m ∧ leap y = true then 1 else 0)
theorem yday_abs {y : Int} {m d : Nat} (h : Valid y m d) : (yearDay y m d : Int) = aDay m d + 60 + (if leap y = true ∧ jf m = 0 then 1 else 0) - 365 * jf m := by
  have hm := h.m12
  obtain ⟨h1, h2, h3, h4, -, -⟩ := h
  cases hl : leap y <;> rcases hm with rfl | rfl | rfl | rfl | rfl | rfl | rfl | rfl | rfl | rfl | rfl | rfl <;> simp [yearDay, cum, aDay, jf, hl] <;> omega
theorem yearDay_le {y : Int} {m d : Nat} (h : Valid y m d) : 1 ≤ yearDay y m d ∧ yearDay y m d ≤ 366 := by
  have hm := h.m12
  obtain ⟨h1, h2, h3, h4, -, -⟩ := h
  cases hl : leap y <;> rcases hm with rfl | rfl | rfl | rfl | rfl | rfl | rfl | rfl | rfl | rfl | rfl | rfl <;> simp [yearDay, cum, monthLen, hl] at h4 ⊢ <;> omega
/-- is the year that century and year say a leap one? -/
theorem leap_abs {y : Int} {m d : Nat} (h : Valid y m d) (hj : jf m = 0) : leap y = true ↔ (aYear y m % 100 % 4 = 0 ∧ (aYear y m % 100 ≠ 0 ∨ aYear y m / 100 % 4 = 0)) := by
  have hI := aYear_int h
  rw [hj] at hI
  rw [leap_iff]
  omega
/-- what the library's leap reckons of century and year -/
def leapN (C K : Nat) : Nat := if K % 4 = 0 ∧ (K ≠ 0 ∨ C % 4 = 0) then 1 else 0
def mdayN (a : Nat) : Nat := (2141 * a + 197913) % 65536 / 2141 + 1
theorem mday_abs {y : Int} {m d : Nat} (h : Valid y m d) : mdayN (aDay m d) = d := (month_abs h).2.1
def ydayN (a j lp : Nat) : Int := (a : Int) + 60 + (if lp = 1 ∧ j = 0 then 1 else 0) - 365 * j
/-- the day of the week -/
def wday (y : Int) (m d : Nat) : Nat := (absDays y m d + 3) % 7
theorem absDays_year {y : Int} {m d : Nat} (h : Valid y m d) (h0 : 0 ≤ y) : (absDays y m d : Int) + 60 = 106751990353932 + (365 * y + (y + 3) / 4 - (y + 99) / 100 + (y + 399) / 400) + yearDay y m d - 1 := by
  have hY := yday_abs h
  have hI := aYear_int h
  have hl := leap_iff y
  have hj := jf_le m
  unfold absDays
  rw [hY]
  clear hY
  generalize aDay m d = A at *
  generalize aYear y m = Y at *
  generalize jf m = J at *
  clear h
  obtain ⟨a, b, c, e, hb, hc, he, rfl⟩ : ∃ a b c e, b < 4 ∧ c < 25 ∧ e < 4 ∧ Y = 400 * a + 100 * b + 4 * c + e := ⟨Y / 400, Y % 400 / 100, Y % 100 / 4, Y % 4, by omega, by omega, by omega, by omega⟩
  have hb4 : b = 0 ∨ b = 1 ∨ b = 2 ∨ b = 3 := by omega
  have he4 : e = 0 ∨ e = 1 ∨ e = 2 ∨ e = 3 := by omega
  have hJ : J = 0 ∨ J = 1 := by omega
  have e1 : (400 * a + 100 * b + 4 * c + e) / 100 = 4 * a + b := by omega
  have e2 : (400 * a + 100 * b + 4 * c + e) % 100 = 4 * c + e := by omega
  rw [e1, e2]
  obtain rfl : y = 400 * (a : Int) + 100 * b + 4 * c + e - 292277022400 + J := by omega
  clear e1 e2 hI hj hb he
  by_cases hlp : leap (400 * (a : Int) + 100 * b + 4 * c + e - 292277022400 + J) = true
  · have hl2 := hl.1 hlp
    simp only [hlp]
    clear hl hlp
    rcases hJ with rfl | rfl <;> rcases hb4 with rfl | rfl | rfl | rfl <;> rcases he4 with rfl | rfl | rfl | rfl <;> simp <;> omega
  · have hl2 : ¬ ((400 * (a : Int) + 100 * b + 4 * c + e - 292277022400 + J) % 4 = 0 ∧ ((400 * (a : Int) + 100 * b + 4 * c + e - 292277022400 + J) % 100 ≠ 0 ∨ (400 * (a : Int) + 100 * b + 4 * c + e - 292277022400 + J) % 400 = 0)) := fun e => hlp (hl.2 e)
    simp only [hlp]
    clear hl hlp
    rcases hJ with rfl | rfl <;> rcases hb4 with rfl | rfl | rfl | rfl <;> rcases he4 with rfl | rfl | rfl | rfl <;> simp <;> omega
theorem wday_year {y : Int} {m d : Nat} (h : Valid y m d) (h0 : 0 ≤ y) : (wday y m d : Int) = (365 * y + (y + 3) / 4 - (y + 99) / 100 + (y + 399) / 400 + yearDay y m d - 1 + 6) % 7 := by
  have := absDays_year h h0
  unfold wday
  omega

/-! ### times -/
/-- the seconds since the internal epoch of a time as it is told at a place (no offset) -/
def isecs (y : Int) (m d h mi s : Nat) : Int := (absDays y m d : Int) * 86400 + ((h * 3600 + mi * 60 + s : Nat) : Int) - 9223371966606163200
structure VClock (h mi s ns : Nat) : Prop where
  h1 : h ≤ 23
  mi1 : mi ≤ 59
  s1 : s ≤ 59
  ns1 : ns ≤ 999999999
theorem isecs_bd {y : Int} {m d h mi s ns : Nat} (hv : Valid y m d) (hc : VClock h mi s ns) : -20000000000000000 ≤ isecs y m d h mi s ∧ isecs y m d h mi s ≤ 20000000000000000 := by
  have := absDays_lt hv
  obtain ⟨h1, h2, h3, -⟩ := hc
  unfold isecs
  omega
/-- .. and back -/
theorem isecs_abs {y : Int} {m d h mi s ns : Nat} (hv : Valid y m d) (hc : VClock h mi s ns) : isecs y m d h mi s + 9223371966606163200 = ((absDays y m d * 86400 + (h * 3600 + mi * 60 + s) : Nat) : Int) := by
  unfold isecs; omega
theorem clock_abs {D h mi s ns : Nat} (hc : VClock h mi s ns) : (D * 86400 + (h * 3600 + mi * 60 + s)) / 86400 = D ∧ (D * 86400 + (h * 3600 + mi * 60 + s)) % 86400 = h * 3600 + mi * 60 + s ∧
    (h * 3600 + mi * 60 + s) / 3600 = h ∧ (h * 3600 + mi * 60 + s - h * 3600) / 60 = mi ∧ h * 3600 + mi * 60 + s - h * 3600 - mi * 60 = s := by
  obtain ⟨h1, h2, h3, -⟩ := hc
  omega

/-- days that need not be there: February 29 of any year -/
theorem absDays_lt' {y : Int} {m d : Nat} (y1 : -200000000 ≤ y) (y2 : y ≤ 200000000) (m1 : 1 ≤ m) (m2 : m ≤ 12) (d1 : 1 ≤ d) (d2 : d ≤ 31) : 106678900000000 ≤ absDays y m d ∧ absDays y m d ≤ 106825100000000 := by
  have := jf_le m
  have hA : aDay m d ≤ 700 := by unfold aDay; omega
  have hI : (aYear y m : Int) = y + 292277022400 - jf m := by unfold aYear; omega
  unfold absDays
  generalize aDay m d = A at *
  generalize aYear y m = Y at *
  omega
theorem isecs_bd' {y : Int} {m d h mi s ns : Nat} (y1 : -200000000 ≤ y) (y2 : y ≤ 200000000) (m1 : 1 ≤ m) (m2 : m ≤ 12) (d1 : 1 ≤ d) (d2 : d ≤ 31) (hc : VClock h mi s ns) : -20000000000000000 ≤ isecs y m d h mi s ∧ isecs y m d h mi s ≤ 20000000000000000 := by
  have := absDays_lt' y1 y2 m1 m2 d1 d2
  obtain ⟨h1, h2, h3, -⟩ := hc
  unfold isecs
  omega
theorem Valid.d31 {y : Int} {m d : Nat} (h : Valid y m d) : d ≤ 31 := by
  have h2 := h.d2
  have h5 : monthLen y m ≤ 31 := by unfold monthLen; (repeat' split) <;> omega
  omega

/-! ### digits -/
/-- the decimal digits of a number -/
def dig (n : Nat) : Bs := if h : n < 10 then [UInt8.ofNat (48 + n)] else dig (n / 10) ++ [UInt8.ofNat (48 + n % 10)]
termination_by n
decreasing_by omega
theorem dig_one {n : Nat} (h : n < 10) : dig n = [UInt8.ofNat (48 + n)] := by rw [dig, dif_pos h]
theorem dig_more {n : Nat} (h : ¬ n < 10) : dig n = dig (n / 10) ++ [UInt8.ofNat (48 + n % 10)] := by rw [dig, dif_neg h]
/-- .. with signs ahead of them up to a width -/
def pad (c : UInt8) (w : Nat) (l : Bs) : Bs := List.replicate (w - l.length) c ++ l
def dg (w n : Nat) : Bs := pad 48 w (dig n)
theorem dg_two {n : Nat} (h : n < 100) : dg 2 n = [UInt8.ofNat (48 + n / 10), UInt8.ofNat (48 + n % 10)] := by
  unfold dg
  by_cases h1 : n < 10
  · rw [dig_one h1]
    have e1 : n / 10 = 0 := by omega
    have e2 : n % 10 = n := by omega
    rw [e1, e2]
    rfl
  · rw [dig_more h1, dig_one (by omega)]
    rfl
theorem dg_four {n : Nat} (h : n < 10000) : dg 4 n = [UInt8.ofNat (48 + n / 1000), UInt8.ofNat (48 + n / 100 % 10), UInt8.ofNat (48 + n / 10 % 10), UInt8.ofNat (48 + n % 10)] := by
  unfold dg
  by_cases h1 : n < 10
  · rw [dig_one h1]
    have e1 : n / 10 = 0 := by omega
    have e2 : n % 10 = n := by omega
    have e3 : n / 100 = 0 := by omega
    have e4 : n / 1000 = 0 := by omega
    rw [e1, e2, e3, e4]
    rfl
  by_cases h2 : n < 100
  · rw [dig_more h1, dig_one (by omega)]
    have e1 : n / 10 % 10 = n / 10 := by omega
    have e3 : n / 100 = 0 := by omega
    have e4 : n / 1000 = 0 := by omega
    rw [e1, e3, e4]
    rfl
  by_cases h3 : n < 1000
  · rw [dig_more h1, dig_more (by omega), dig_one (by omega)]
    have e3 : n / 10 / 10 = n / 100 := by omega
    have e5 : n / 100 % 10 = n / 100 := by omega
    have e4 : n / 1000 = 0 := by omega
    rw [e3, e4, e5]
    rfl
  · rw [dig_more h1, dig_more (by omega), dig_more (by omega), dig_one (by omega)]
    have e3 : n / 10 / 10 = n / 100 := by omega
    have e4 : n / 100 / 10 = n / 1000 := by omega
    rw [e3, e4]
    rfl
theorem dig_len_pos (n : Nat) : 0 < (dig n).length := by
  by_cases h : n < 10
  · rw [dig_one h]; simp
  · rw [dig_more h]; simp
theorem dig_lt : ∀ (k n : Nat), n < 10 ^ (k + 1) → (dig n).length ≤ k + 1
  | 0, n, h => by rw [dig_one (by simpa using h)]; simp
  | k + 1, n, h => by
    by_cases h1 : n < 10
    · rw [dig_one h1]; simp
    · rw [dig_more h1]
      have : n / 10 < 10 ^ (k + 1) := by rw [Nat.pow_succ] at h; omega
      have := dig_lt k (n / 10) this
      simp
      omega
theorem dig_all : ∀ n : Nat, allDig (dig n) = true := by
  intro n
  induction n using Nat.strongRecOn with
  | ind n ih =>
    by_cases h : n < 10
    · rw [dig_one h]
      simp [allDig, isDig, UInt8.toNat_ofNat']
      omega
    · rw [dig_more h, allDig_snoc, ih _ (by omega)]
      simp [isDig, UInt8.toNat_ofNat']
      omega
theorem dig_val : ∀ n : Nat, val (dig n) = n := by
  intro n
  induction n using Nat.strongRecOn with
  | ind n ih =>
    by_cases h : n < 10
    · rw [dig_one h]
      simp [val, valFrom, UInt8.toNat_ofNat']
      omega
    · rw [dig_more h, val_snoc, ih _ (by omega)]
      simp [UInt8.toNat_ofNat']
      omega
end Go.Proofs.YtgcjhakhepgjlaaDoor.Fs

/-
  THE PLAIN MODEL, format: what a time is told as by a layout. Nothing of the program is imported.
-/
namespace Go.Proofs.YtgcjhakhepgjlaaDoor.Fs
set_option linter.unusedVariables false

/-- a time as it is told: the numbers are those of the library -/
structure Tm where
  year : Nat
  month : Nat
  day : Nat
  yday : Nat
  wday : Nat
  hour : Nat
  min : Nat
  sec : Nat
  nano : Nat
  name : Bs
  off : Int

def monthName (m : Nat) : Bs := match m with
  | 1 => [74, 97, 110, 117, 97, 114, 121] | 2 => [70, 101, 98, 114, 117, 97, 114, 121] | 3 => [77, 97, 114, 99, 104] | 4 => [65, 112, 114, 105, 108] | 5 => [77, 97, 121] | 6 => [74, 117, 110, 101]
  | 7 => [74, 117, 108, 121] | 8 => [65, 117, 103, 117, 115, 116] | 9 => [83, 101, 112, 116, 101, 109, 98, 101, 114] | 10 => [79, 99, 116, 111, 98, 101, 114] | 11 => [78, 111, 118, 101, 109, 98, 101, 114]
  | 12 => [68, 101, 99, 101, 109, 98, 101, 114] | _ => []
def dayName (d : Nat) : Bs := match d with
  | 0 => [83, 117, 110, 100, 97, 121] | 1 => [77, 111, 110, 100, 97, 121] | 2 => [84, 117, 101, 115, 100, 97, 121] | 3 => [87, 101, 100, 110, 101, 115, 100, 97, 121] | 4 => [84, 104, 117, 114, 115, 100, 97, 121]
  | 5 => [70, 114, 105, 100, 97, 121] | 6 => [83, 97, 116, 117, 114, 100, 97, 121] | _ => []
theorem monthName_len (m : Nat) : (monthName m).length ≤ 9 := by
  unfold monthName; split <;> decide
theorem dayName_len (m : Nat) : (dayName m).length ≤ 9 := by
  unfold dayName; split <;> decide
def hr12 (h : Nat) : Nat := if h % 12 = 0 then 12 else h % 12
/-- an offset: its sign, hours, minutes, seconds -/
def offs (off : Int) (mins secs colon : Bool) : Bs :=
  (if off < 0 then [45] else [43]) ++ dg 2 (off.natAbs / 3600) ++ (if colon then [58] else []) ++ (if mins then dg 2 (off.natAbs / 60 % 60) else []) ++ (if secs then (if colon then [58] else []) ++ dg 2 (off.natAbs % 60) else [])
/-- the last place that is no zero -/
def sig : Bs → Nat
  | [] => 0
  | c :: t => if sig t = 0 then (if c = 48 then 0 else 1) else sig t + 1
theorem sig_le : ∀ l : Bs, sig l ≤ l.length
  | [] => Nat.le_refl _
  | c :: t => by
    have := sig_le t
    unfold sig
    split
    · split <;> simp
    · simp; omega
theorem sig_zero : ∀ (l : Bs), (∀ i (h : i < l.length), l[i] = 48) → sig l = 0
  | [], _ => rfl
  | c :: t, h => by
    have h1 := sig_zero t (fun i hi => h (i + 1) (by simpa using hi))
    have h2 : c = 48 := h 0 (by simp)
    simp [sig, h1, h2]
theorem sig_eq : ∀ (l : Bs) (j : Nat), j ≤ l.length → (∀ i (h : i < l.length), j ≤ i → l[i] = 48) → (∀ (h : j - 1 < l.length), 0 < j → l[j - 1] ≠ 48) → sig l = j
  | [], j, hj, _, _ => by simp at hj; subst hj; rfl
  | c :: t, 0, _, h1, _ => sig_zero _ (fun i hi => h1 i hi (Nat.zero_le _))
  | c :: t, 1, hj, h1, h2 => by
    have h3 := sig_zero t (fun i hi => h1 (i + 1) (by simpa using hi) (by omega))
    have h4 : c ≠ 48 := h2 (by simp) (by omega)
    simp [sig, h3, h4]
  | c :: t, j + 2, hj, h1, h2 => by
    have h3 := sig_eq t (j + 1) (by simpa using hj) (fun i hi h => h1 (i + 1) (by simpa using hi) (by omega)) (fun hi _ => by
      have := h2 (by simp at hi ⊢; omega) (by omega)
      simpa using this)
    simp [sig, h3]
/-- a fraction: its mark and its first digits, without zeros at their end if it is trimmed -/
def nanoT (trim : Bool) (n : Nat) (dot : UInt8) (nano : Nat) : Bs :=
  if trim then (if n = 0 ∨ nano = 0 ∨ sig ((dg 9 nano).take n) = 0 then [] else dot :: (dg 9 nano).take (sig ((dg 9 nano).take n)))
  else dot :: (dg 9 nano).take n
theorem dg_len {w n : Nat} (hw : n < 10 ^ w) (h0 : 0 < w) : (dg w n).length = w := by
  obtain ⟨k, rfl⟩ : ∃ k, w = k + 1 := ⟨w - 1, by omega⟩
  have := dig_lt k n hw
  simp [dg, pad]
  omega

theorem dg_dig (w n : Nat) : allDig (dg w n) = true := by
  have h := dig_all n
  unfold dg pad
  simp only [allDig, List.all_append, Bool.and_eq_true] at h ⊢
  refine ⟨?_, h⟩
  rw [List.all_eq_true]
  intro x hx
  rw [List.mem_replicate] at hx
  rw [hx.2]
  rfl
/-- the fractions' numbers -/
def isFrac (s : Int) : Bool := s % 65536 == 34 || s % 65536 == 35
def fracN (s : Int) : Nat := (s / 65536 % 4096).toNat
def fracDot (s : Int) : UInt8 := if s / 268435456 = 0 then 46 else 44

/-- THE TEXT OF AN ELEMENT, by its number -/
def elem (t : Tm) (s : Int) : Bs :=
  if s = 276 then dg 2 (t.year % 100) else if s = 275 then dg 4 t.year else if s = 258 then (monthName t.month).take 3 else if s = 257 then monthName t.month
  else if s = 259 then dg 0 t.month else if s = 260 then dg 2 t.month else if s = 262 then (dayName t.wday).take 3 else if s = 261 then dayName t.wday
  else if s = 263 then dg 0 t.day else if s = 264 then (if t.day < 10 then [32] else []) ++ dg 0 t.day else if s = 265 then dg 2 t.day
  else if s = 522 then (if t.yday < 100 then (if t.yday < 10 then [32, 32] else [32]) else []) ++ dg 0 t.yday else if s = 523 then dg 3 t.yday
  else if s = 1036 then dg 2 t.hour else if s = 1037 then dg 0 (hr12 t.hour) else if s = 1038 then dg 2 (hr12 t.hour)
  else if s = 1039 then dg 0 t.min else if s = 1040 then dg 2 t.min else if s = 1041 then dg 0 t.sec else if s = 1042 then dg 2 t.sec
  else if s = 1045 then (if 12 ≤ t.hour then [80, 77] else [65, 77]) else if s = 1046 then (if 12 ≤ t.hour then [112, 109] else [97, 109])
  else if s = 23 then (if t.name = [] then (if t.off < 0 then [45] else [43]) ++ dg 2 (t.off.natAbs / 3600) ++ dg 2 (t.off.natAbs / 60 % 60) else t.name)
  else if s = 24 then (if t.off = 0 then [90] else offs t.off true false false) else if s = 25 then (if t.off = 0 then [90] else offs t.off true true false)
  else if s = 26 then (if t.off = 0 then [90] else offs t.off false false false) else if s = 27 then (if t.off = 0 then [90] else offs t.off true false true)
  else if s = 28 then (if t.off = 0 then [90] else offs t.off true true true) else if s = 29 then offs t.off true false false else if s = 30 then offs t.off true true false
  else if s = 31 then offs t.off false false false else if s = 32 then offs t.off true false true else if s = 33 then offs t.off true true true
  else if isFrac s then nanoT (s % 65536 == 35) (fracN s) (fracDot s) t.nano else []

/-- the numbers that elements have -/
def stdList : List Int := [276, 275, 258, 257, 259, 260, 262, 261, 263, 264, 265, 522, 523, 1036, 1037, 1038, 1039, 1040, 1041, 1042, 1045, 1046, 23, 24, 25, 26, 27, 28, 29, 30, 31, 32, 33]
def StdOk (s : Int) : Prop := s ∈ stdList ∨ ∃ (code : Int) (n : Nat) (c : UInt8), (code = 34 ∨ code = 35) ∧ (c = 46 ∨ c = 44) ∧ 1 ≤ n ∧ s = frac code n c
def okStd (o : Option (Nat × Int × Nat)) : Prop := ∀ e s n, o = some (e, s, n) → StdOk s ∧ 1 ≤ n
theorem okd_none : okStd none := fun _ _ _ h => by cases h
theorem okd_some {e : Nat} {s : Int} {n : Nat} (h : s ∈ stdList) (h2 : 1 ≤ n) : okStd (some (e, s, n)) := fun _ _ _ h' => by cases h'; exact ⟨.inl h, h2⟩
theorem okd_ite {c : Prop} [Decidable c] {a b : Option (Nat × Int × Nat)} (ha : okStd a) (hb : okStd b) : okStd (if c then a else b) := by
  by_cases h : c
  · rw [if_pos h]; exact ha
  · rw [if_neg h]; exact hb
theorem okd_ite' {c : Prop} [Decidable c] {a b : Option (Nat × Int × Nat)} (ha : c → okStd a) (hb : okStd b) : okStd (if c then a else b) := by
  by_cases h : c
  · rw [if_pos h]; exact ha h
  · rw [if_neg h]; exact hb
theorem std0x_in (c : UInt8) : std0x c ∈ stdList := by
  unfold std0x
  repeat' split
  all_goals decide
theorem run_pos {d : UInt8} {t : Bs} : 1 ≤ run d (d :: t) := by simp [run]
theorem step_std (l : Bs) : okStd (step l) := by
  rcases l with _ | ⟨c, t⟩
  · exact okd_none
  unfold step
  rcases t with _ | ⟨d, t⟩
  all_goals
    dsimp only
    repeat' first
      | exact okd_none
      | exact okd_some (by decide) (by omega)
      | exact okd_some (std0x_in _) (by omega)
      | (refine okd_ite' (c := c = 46 ∨ c = 44) (fun hc => ?_) ?_)
      | refine okd_ite ?_ ?_
  all_goals
    intro e s n h
    cases h
    exact ⟨.inr ⟨_, _, c, by split <;> simp, hc, run_pos, rfl⟩, by omega⟩
theorem next_std : ∀ (l : Bs), (next l).2.1 ≠ 0 → StdOk (next l).2.1 ∧ (next l).2.2.length < l.length
  | [], h => absurd rfl h
  | c :: t, h => by
    unfold next at h ⊢
    split
    · rename_i e s n hs
      have := step_std _ _ _ _ hs
      refine ⟨this.1, ?_⟩
      simp only [List.length_drop, List.length_cons]
      omega
    · rename_i hs
      rw [hs] at h
      have := next_std t (by simpa [pre] using h)
      simpa [pre] using ⟨this.1, by omega⟩
theorem next_len {l : Bs} (h : (next l).2.1 ≠ 0) : (next l).2.2.length < l.length := (next_std l h).2

/-- THE TEXT OF A TIME by a layout -/
def fmt (t : Tm) (l : Bs) : Bs :=
  if h : (next l).2.1 = 0 then (next l).1 else (next l).1 ++ (elem t (next l).2.1 ++ fmt t (next l).2.2)
termination_by l.length
decreasing_by exact next_len h
theorem fmt_end {t : Tm} {l : Bs} (h : (next l).2.1 = 0) : fmt t l = (next l).1 := by rw [fmt, dif_pos h]
theorem fmt_on {t : Tm} {l : Bs} (h : (next l).2.1 ≠ 0) : fmt t l = (next l).1 ++ (elem t (next l).2.1 ++ fmt t (next l).2.2) := by rw [fmt, dif_neg h]
end Go.Proofs.YtgcjhakhepgjlaaDoor.Fs

/-
  THE PLAIN MODEL, format: a time by a layout of pieces is each piece's text, in order. Nothing of the program is imported.
-/
namespace Go.Proofs.YtgcjhakhepgjlaaDoor.Fs
set_option linter.unusedVariables false
set_option linter.unusedSimpArgs false

/-- the number of an element -/
def codeOf (p : Piece) : Int :=
  if p.kind = 1 then 275 else if p.kind = 2 then 276 else if p.kind = 3 then 257 else if p.kind = 4 then 258 else if p.kind = 5 then 260 else if p.kind = 6 then 259 else if p.kind = 7 then 261 else if p.kind = 8 then 262
  else if p.kind = 9 then 263 else if p.kind = 10 then 264 else if p.kind = 11 then 265 else if p.kind = 12 then 522 else if p.kind = 13 then 523 else if p.kind = 14 then 1036 else if p.kind = 15 then 1037 else if p.kind = 16 then 1038
  else if p.kind = 17 then 1039 else if p.kind = 18 then 1040 else if p.kind = 19 then 1041 else if p.kind = 20 then 1042 else if p.kind = 21 then 1045 else if p.kind = 22 then 29 else if p.kind = 23 then 32 else if p.kind = 24 then 31
  else if p.kind = 25 then 30 else if p.kind = 26 then 33 else if p.kind = 27 then 24 else if p.kind = 28 then 27 else if p.kind = 29 then 26 else if p.kind = 30 then 25 else if p.kind = 31 then 28 else if p.kind = 32 then 23
  else frac (if p.kind = 34 then 35 else 34) p.n.toNat (if p.comma then 44 else 46)
theorem step_code {p : Piece} (hp : pieceOk p = true) (hk : p.kind ≠ 0) {r : Bs} (hr : sep r = true) (hz : isZone p.kind = true → noColon r = true) :
    step (element p ++ r) = some (0, codeOf p, (element p).length) := by
  obtain ⟨K, T, N, C⟩ := p
  simp only at hk hz
  by_cases h3 : isFraction K = true
  · have hn : 1 ≤ N ∧ N ≤ 9 := (show T = [] ∧ 1 ≤ N ∧ N ≤ 9 by simpa [pieceOk, hk, h3, within] using hp).2
    obtain ⟨M, rfl⟩ : ∃ M : Nat, N = (M + 1 : Nat) := ⟨(N - 1).toNat, by omega⟩
    have hM : M ≤ 8 := by omega
    have hd : ∀ d : UInt8, d = 48 ∨ d = 57 → ∀ c t, r = c :: t → c ≠ d := by
      rintro d hd c t rfl
      have := sep_ne hr
      rcases hd with rfl | rfl
      · exact this.1
      · exact this.2.2.2.2.2.2.2.2.1
    have hdig : ∀ (d : UInt8), digAt (List.replicate (M + 1) d ++ r) (M + 1) = false := by
      intro d
      rcases r with _ | ⟨c, t⟩
      · simp [digAt]
      · have := sep_cons hr
        simp [digAt, isDig]
        omega
    have hk4 : K = 33 ∨ K = 34 := by simpa [isFraction] using h3
    have key : ∀ (m d : UInt8), (m = 46 ∨ m = 44) → (d = 48 ∨ d = 57) → step ([m] ++ List.replicate (M + 1) d ++ r) = some (0, frac (if d = 57 then 35 else 34) (M + 1) m, 1 + (M + 1)) := by
      intro m d hm hd'
      have hrun := run_rep d (M + 1) r (hd d hd')
      have hg := hdig d
      have e1 : [m] ++ List.replicate (M + 1) d ++ r = m :: (List.replicate (M + 1) d ++ r) := rfl
      have e2 : List.replicate (M + 1) d ++ r = d :: (List.replicate M d ++ r) := by simp [List.replicate_succ]
      rw [e1]
      rw [e2] at hrun hg ⊢
      rcases hm with rfl | rfl
      · simp only [step]
        simp [hrun, hg, hd']
      · simp only [step]
        simp [hrun, hg, hd']
    rcases hk4 with rfl | rfl
    · cases C
      · have h := key 46 48 (.inl rfl) (.inl rfl)
        simp [codeOf, element, markB] at h ⊢
        rw [h]
        simp; omega
      · have h := key 44 48 (.inr rfl) (.inl rfl)
        simp [codeOf, element, markB] at h ⊢
        rw [h]
        simp; omega
    · cases C
      · have h := key 46 57 (.inl rfl) (.inr rfl)
        simp [codeOf, element, markB] at h ⊢
        rw [h]
        simp; omega
      · have h := key 44 57 (.inr rfl) (.inr rfl)
        simp [codeOf, element, markB] at h ⊢
        rw [h]
        simp; omega
  · have hw : 1 ≤ K ∧ K ≤ 34 := by
      have := hp
      simp [pieceOk, hk, h3, within] at this
      omega
    simp [isFraction] at h3
    have hK : K = 1 ∨ K = 2 ∨ K = 3 ∨ K = 4 ∨ K = 5 ∨ K = 6 ∨ K = 7 ∨ K = 8 ∨ K = 9 ∨ K = 10 ∨ K = 11 ∨ K = 12 ∨ K = 13 ∨ K = 14 ∨ K = 15 ∨ K = 16 ∨ K = 17 ∨ K = 18 ∨ K = 19 ∨ K = 20 ∨ K = 21 ∨ K = 22 ∨ K = 23 ∨ K = 24 ∨ K = 25 ∨ K = 26 ∨ K = 27 ∨ K = 28 ∨ K = 29 ∨ K = 30 ∨ K = 31 ∨ K = 32 := by omega
    clear hp hk hw h3
    rcases r with _ | ⟨c, t⟩
    · clear hz hr
      rw [List.append_nil]
      rcases hK with rfl | rfl | rfl | rfl | rfl | rfl | rfl | rfl | rfl | rfl | rfl | rfl | rfl | rfl | rfl | rfl | rfl | rfl | rfl | rfl | rfl | rfl | rfl | rfl | rfl | rfl | rfl | rfl | rfl | rfl | rfl | rfl
      all_goals rfl
    · have hn := sep_ne hr
      have hl : low (c :: t) = false := by
        have := sep_cons hr
        simp [low]; omega
      have hcl : isZone K = true → c ≠ 58 := fun h => by simpa [noColon] using hz h
      clear hz hr
      obtain ⟨n0, n1, n2, n3, n4, n5, n6, n7, n9, na, nu, nd⟩ := hn
      rcases hK with rfl | rfl | rfl | rfl | rfl | rfl | rfl | rfl | rfl | rfl | rfl | rfl | rfl | rfl | rfl | rfl | rfl | rfl | rfl | rfl | rfl | rfl | rfl | rfl | rfl | rfl | rfl | rfl | rfl | rfl | rfl | rfl
      all_goals
        first
        | (have h58 := hcl rfl
           simp [codeOf, element, step, std0x, n0, n1, n2, n3, n4, n5, n6, n7, na, nu, h58]
           done)
        | (simp [codeOf, element, step, std0x, n0, n1, n2, n3, n4, n5, n6, n7, na, nu, nd, hl]
           done)
/-- the text of a piece -/
def wr (t : Tm) (p : Piece) : Bs := if p.kind = 0 then p.text else elem t (codeOf p)
def written (t : Tm) (ps : List Piece) : Bs := ps.flatMap (wr t)
theorem frac_pos {c : Int} (hc : c = 34 ∨ c = 35) (n : Nat) (m : UInt8) : frac c n m ≠ 0 := by
  unfold frac
  split <;> omega
theorem ite_ne {c : Prop} [Decidable c] {a b : Int} (ha : a ≠ 0) (hb : b ≠ 0) : (if c then a else b) ≠ 0 := by
  by_cases h : c
  · rw [if_pos h]; exact ha
  · rw [if_neg h]; exact hb
theorem codeOf_ne (p : Piece) : codeOf p ≠ 0 := by
  unfold codeOf
  repeat' first
    | exact frac_pos (by split <;> simp) _ _
    | refine ite_ne (by decide) ?_
theorem element_text {p : Piece} (h0 : p.kind = 0) : element p = p.text := by
  obtain ⟨K, T, N, C⟩ := p
  simp only at h0
  subst h0
  simp [element]
theorem piece_plain {p : Piece} (hp : pieceOk p = true) (h0 : p.kind = 0) : plain p.text = true := by
  obtain ⟨K, T, N, C⟩ := p
  simp only at h0
  subst h0
  simp [pieceOk] at hp
  exact hp.1.1.2
/-- pieces of which each element is found -/
def chain : List Piece → Bool
  | [] => true
  | p :: r => (if p.kind = 0 then p.text.all plainC else pieceOk p && (sep (layout r) && (!isZone p.kind || noColon (layout r)))) && chain r
theorem chain_from : ∀ (ps : List Piece) (prev : Option Piece), allFrom prev ps = true → chain ps = true
  | [], _, _ => rfl
  | p :: r, prev, h => by
    simp only [allFrom, stepOk, Bool.and_eq_true] at h
    obtain ⟨⟨hp, _⟩, hr⟩ := h
    have ih := chain_from r (some p) hr
    by_cases h0 : p.kind = 0
    · simp [chain, h0, ih, plain_all (piece_plain hp h0)]
    · obtain ⟨hs, hz⟩ := sep_layout hp h0 hr
      simp only [chain, h0, if_false, hp, hs, ih, Bool.and_true, Bool.true_and]
      cases hk : isZone p.kind
      · rfl
      · simpa using hz hk
/-- A TIME BY A LAYOUT OF PIECES -/
theorem fmt_chain (t : Tm) : ∀ (ps : List Piece) (T : Bs), T.all plainC = true → chain ps = true → fmt t (T ++ layout ps) = T ++ written t ps
  | [], T, hT, _ => by
    have hn := next_all hT
    simp only [layout, written, List.flatMap_nil, List.append_nil]
    rw [fmt_end (by rw [hn]), hn]
  | p :: r, T, hT, h => by
    simp only [chain, Bool.and_eq_true] at h
    obtain ⟨hp, hr⟩ := h
    have el : layout (p :: r) = element p ++ layout r := by simp [layout]
    have ew : written t (p :: r) = wr t p ++ written t r := by simp [written]
    rw [el, ew]
    by_cases h0 : p.kind = 0
    · rw [if_pos h0] at hp
      have hw : wr t p = p.text := by simp [wr, h0]
      rw [element_text h0, hw, ← List.append_assoc, ← List.append_assoc]
      exact fmt_chain t r (T ++ p.text) (by rw [List.all_append, hT, hp]; rfl) hr
    · rw [if_neg h0] at hp
      simp only [Bool.and_eq_true, Bool.or_eq_true, Bool.not_eq_true'] at hp
      obtain ⟨hp, hs, hz⟩ := hp
      have hz' : isZone p.kind = true → noColon (layout r) = true := fun h => by
        rcases hz with hz | hz
        · rw [h] at hz; cases hz
        · exact hz
      have hst := step_code hp h0 hs hz'
      have hne := next_found hst
      have hn : next (T ++ (element p ++ layout r)) = (T, codeOf p, layout r) := by
        rw [next_text T _ hT (element_no07 hp h0 _ hs), hne]
        simp [pre]
      have ih := fmt_chain t r [] rfl hr
      have hw : wr t p = elem t (codeOf p) := by simp [wr, h0]
      rw [fmt_on (by rw [hn]; exact codeOf_ne p), hn, hw]
      simp only [List.nil_append] at ih
      rw [ih]
theorem fmt_pieces (t : Tm) (ps : List Piece) (prev : Option Piece) (T : Bs) (hT : T.all plainC = true) (h : allFrom prev ps = true) : fmt t (T ++ layout ps) = T ++ written t ps :=
  fmt_chain t ps T hT (chain_from ps prev h)
theorem fmt_of (t : Tm) {ps : List Piece} (h : chain ps = true) : fmt t (layout ps) = written t ps := by
  have := fmt_chain t ps [] rfl h
  simpa using this
theorem fmt_layout (t : Tm) {ps : List Piece} (h : piecesOk ps = true) : fmt t (layout ps) = written t ps := by
  simp only [piecesOk, Bool.and_eq_true] at h
  exact fmt_of t (chain_from ps none h.1.1)
end Go.Proofs.YtgcjhakhepgjlaaDoor.Fs

/-
  THE PLAIN MODEL, format: the reference's texts of elements are those of the library. Nothing of the program is imported.
-/
namespace Go.Proofs.YtgcjhakhepgjlaaDoor.Fs
set_option linter.unusedVariables false
set_option linter.unusedSimpArgs false

theorem dg_zero_one (n : Nat) : dg 0 n = dg 1 n := by
  have := dig_len_pos n
  have e1 : 0 - (dig n).length = 0 := by omega
  have e2 : 1 - (dig n).length = 0 := by omega
  simp only [dg, pad, e1, e2]
theorem dig_len {n : Nat} : (n < 10 → (dig n).length = 1) ∧ (10 ≤ n → n < 100 → (dig n).length = 2) ∧ (100 ≤ n → n < 1000 → (dig n).length = 3) := by
  refine ⟨fun h => by rw [dig_one h]; rfl, fun h1 h2 => ?_, fun h1 h2 => ?_⟩
  · rw [dig_more (by omega), dig_one (by omega)]; rfl
  · rw [dig_more (by omega), dig_more (by omega), dig_one (by omega)]; rfl
theorem blank_two {n : Nat} (h : n < 100) : (if n < 10 then [32] else []) ++ dg 0 n = pad 32 2 (dig n) := by
  by_cases h1 : n < 10
  · have := (dig_len (n := n)).1 h1
    simp [dg, pad, this, h1]
  · have := (dig_len (n := n)).2.1 (by omega) h
    simp [dg, pad, this, h1]
theorem blank_three {n : Nat} (h : n < 1000) : (if n < 100 then (if n < 10 then [32, 32] else [32]) else []) ++ dg 0 n = pad 32 3 (dig n) := by
  by_cases h1 : n < 10
  · have := (dig_len (n := n)).1 h1
    have h2 : n < 100 := by omega
    simp [dg, pad, this, h1, h2, List.replicate_succ]
  by_cases h2 : n < 100
  · have := (dig_len (n := n)).2.1 (by omega) h2
    simp [dg, pad, this, h1, h2]
  · have := (dig_len (n := n)).2.2 (by omega) h
    simp [dg, pad, this, h1, h2]

/-- digits of a fixed width -/
def dgz : Nat → Nat → Bs
  | 0, _ => []
  | w + 1, n => dgz w (n / 10) ++ [UInt8.ofNat (48 + n % 10)]
theorem dgz_len : ∀ (w n : Nat), (dgz w n).length = w
  | 0, _ => rfl
  | w + 1, n => by simp [dgz, dgz_len w]
theorem dgz_zero : ∀ w : Nat, dgz w 0 = List.replicate w 48
  | 0 => rfl
  | w + 1 => by
    rw [List.replicate_succ', dgz, Nat.zero_div, dgz_zero w]
    rfl
theorem dgz_dig : ∀ (w n : Nat), n < 10 ^ (w + 1) → dgz (w + 1) n = dg (w + 1) n
  | 0, n, h => by
    have h1 : n < 10 := by simpa using h
    have : n % 10 = n := by omega
    simp [dgz, dg, pad, dig_one h1, this]
  | w + 1, n, h => by
    have hd : n / 10 < 10 ^ (w + 1) := by rw [Nat.pow_succ] at h; omega
    have ih := dgz_dig w (n / 10) hd
    rw [dgz, ih]
    by_cases h1 : n < 10
    · have e0 : n / 10 = 0 := by omega
      have e1 : n % 10 = n := by omega
      have e2 : (dig 0).length = 1 := by rw [dig_one (by omega)]; rfl
      simp only [dg, pad, dig_one h1, e0, e1]
      rw [dig_one (by omega : 0 < 10)]
      simp only [List.length_cons, List.length_nil, List.append_assoc]
      have : w + 1 + 1 - (0 + 1) = (w + 1 - (0 + 1)) + 1 := by omega
      rw [this, List.replicate_succ', List.append_assoc]
      rfl
    · simp only [dg, pad, dig_more h1]
      simp only [List.length_append, List.length_cons, List.length_nil]
      have : w + 1 + 1 - ((dig (n / 10)).length + (0 + 1)) = w + 1 - (dig (n / 10)).length := by omega
      rw [this, List.append_assoc]
theorem dgz_take : ∀ (k w n : Nat), (dgz (w + k) n).take w = dgz w (n / 10 ^ k)
  | 0, w, n => by
    rw [Nat.add_zero, Nat.pow_zero, Nat.div_one, List.take_of_length_le (by rw [dgz_len]; omega)]
  | k + 1, w, n => by
    have : w + (k + 1) = (w + k) + 1 := by omega
    rw [this, dgz, List.take_append_of_le_length (by rw [dgz_len]; omega), dgz_take k w, Nat.div_div_eq_div_mul, Nat.pow_succ, Nat.mul_comm]
theorem sig_snoc0 : ∀ l : Bs, sig (l ++ [48]) = sig l
  | [] => rfl
  | c :: t => by simp only [List.cons_append, sig, sig_snoc0 t]
theorem sig_snoc {c : UInt8} (h : c ≠ 48) : ∀ l : Bs, sig (l ++ [c]) = l.length + 1
  | [] => by simp [sig, h]
  | d :: t => by simp [sig, sig_snoc h t]
/-- the reference's way to leave zeros out -/
def trimT (dot : UInt8) : Nat → Nat → Bs
  | 0, _ => []
  | d + 1, n => if n % 10 = 0 then trimT dot d (n / 10) else dot :: dgz (d + 1) n
theorem trim_eq (dot : UInt8) : ∀ (d n : Nat), (if sig (dgz d n) = 0 then [] else dot :: (dgz d n).take (sig (dgz d n))) = trimT dot d n
  | 0, n => by simp [dgz, sig, trimT]
  | d + 1, n => by
    by_cases h : n % 10 = 0
    · have e : dgz (d + 1) n = dgz d (n / 10) ++ [48] := by rw [dgz, h]; rfl
      have hs := sig_le (dgz d (n / 10))
      rw [trimT, if_pos h, e, sig_snoc0, List.take_append_of_le_length hs]
      exact trim_eq dot d (n / 10)
    · have hc : UInt8.ofNat (48 + n % 10) ≠ 48 := by
        intro e
        have := congrArg UInt8.toNat e
        rw [UInt8.toNat_ofNat'] at this
        have h48 : (48 : UInt8).toNat = 48 := rfl
        omega
      rw [trimT, if_neg h, dgz, sig_snoc hc, dgz_len, if_neg (by omega), List.take_of_length_le (by simp [dgz_len])]
theorem frac_take {nano d : Nat} (hn : nano ≤ 999999999) (h1 : 1 ≤ d) (h9 : d ≤ 9) : (dg 9 nano).take d = dgz d (nano / 10 ^ (9 - d)) := by
  rw [← dgz_dig 8 nano (by omega)]
  have : 8 + 1 = d + (9 - d) := by omega
  rw [this, dgz_take]
theorem pow_split {a b : Nat} (h : a ≤ b) : 10 ^ b = 10 ^ a * 10 ^ (b - a) := by rw [← Nat.pow_add]; congr 1; omega
theorem cut_lt {nano d : Nat} (hn : nano ≤ 999999999) (h9 : d ≤ 9) : nano / 10 ^ (9 - d) < 10 ^ d := by
  rw [Nat.div_lt_iff_lt_mul (Nat.pos_of_ne_zero (by simp))]
  have := pow_split (a := d) (b := 9) h9
  have e : (10 : Nat) ^ 9 = 1000000000 := rfl
  omega
theorem fraction_eq {nano d : Nat} (hn : nano ≤ 999999999) (h1 : 1 ≤ d) (h9 : d ≤ 9) (dot : UInt8) : nanoT false d dot nano = dot :: dg d (nano / 10 ^ (9 - d)) := by
  have h := dgz_dig (d - 1) (nano / 10 ^ (9 - d)) (by have := cut_lt hn h9; rwa [Nat.sub_add_cancel h1])
  rw [Nat.sub_add_cancel h1] at h
  rw [nanoT, if_neg (by decide), frac_take hn h1 h9, h]
theorem trimmed_eq {nano d : Nat} (hn : nano ≤ 999999999) (h1 : 1 ≤ d) (h9 : d ≤ 9) (dot : UInt8) : nanoT true d dot nano = trimT dot d (nano / 10 ^ (9 - d)) := by
  have hk : (dg 9 nano).take (sig ((dg 9 nano).take d)) = ((dg 9 nano).take d).take (sig ((dg 9 nano).take d)) := by
    have h1 := sig_le ((dg 9 nano).take d)
    have h2 : ((dg 9 nano).take d).length ≤ d := by simp; omega
    rw [List.take_take, Nat.min_eq_left (by omega)]
  rw [nanoT, if_pos rfl, hk, frac_take hn h1 h9, ← trim_eq]
  by_cases h0 : nano = 0
  · subst h0
    have hz : sig (dgz d (0 / 10 ^ (9 - d))) = 0 := by
      rw [Nat.zero_div, dgz_zero]
      exact sig_zero _ (by simp)
    rw [if_pos (.inr (.inl rfl)), if_pos hz]
  · have hd : ¬ d = 0 := by omega
    simp only [h0, hd, false_or]
/-- .. and the reference's loop, as it goes -/
theorem trim_dg {d n : Nat} (hd : 1 ≤ d) (hn : n < 10 ^ d) : dgz d n = dg d n := by
  have h := dgz_dig (d - 1) n (by rwa [Nat.sub_add_cancel hd])
  rwa [Nat.sub_add_cancel hd] at h
/-- fractions by their numbers -/
theorem frac_elem (t : Tm) (c : Int) (hc : c = 34 ∨ c = 35) (n : Nat) (hn : n < 4096) (m : UInt8) (hm : m = 46 ∨ m = 44) : elem t (frac c n m) = nanoT (c == 35) n m t.nano := by
  have e0 : ((n % 4096 : Nat) : Int) = (n : Int) := by omega
  obtain ⟨x, hx⟩ : ∃ x : Int, x = frac c n m := ⟨_, rfl⟩
  have hv : x = c + n * 65536 + (if m = 46 then 0 else 268435456) := by rw [hx]; unfold frac; rw [e0]
  have h1 : x % 65536 = c := by rcases hm with rfl | rfl <;> simp at hv <;> omega
  have h2 : x / 65536 % 4096 = n := by rcases hm with rfl | rfl <;> simp at hv <;> omega
  have h3 : fracDot x = m := by
    unfold fracDot
    rcases hm with rfl | rfl <;> simp at hv
    · rw [if_pos (by omega)]
    · rw [if_neg (by omega)]
  rw [← hx]
  have hk : ∀ k : Int, k % 65536 ≠ 34 → k % 65536 ≠ 35 → x ≠ k := by
    intro k h34 h35 e
    rw [e] at h1
    omega
  unfold elem
  simp only [hk 276 (by decide) (by decide), hk 275 (by decide) (by decide), hk 258 (by decide) (by decide), hk 257 (by decide) (by decide), hk 259 (by decide) (by decide), hk 260 (by decide) (by decide), hk 262 (by decide) (by decide), hk 261 (by decide) (by decide), hk 263 (by decide) (by decide),
    hk 264 (by decide) (by decide), hk 265 (by decide) (by decide), hk 522 (by decide) (by decide), hk 523 (by decide) (by decide), hk 1036 (by decide) (by decide), hk 1037 (by decide) (by decide), hk 1038 (by decide) (by decide), hk 1039 (by decide) (by decide), hk 1040 (by decide) (by decide),
    hk 1041 (by decide) (by decide), hk 1042 (by decide) (by decide), hk 1045 (by decide) (by decide), hk 1046 (by decide) (by decide), hk 23 (by decide) (by decide), hk 24 (by decide) (by decide), hk 25 (by decide) (by decide), hk 26 (by decide) (by decide), hk 27 (by decide) (by decide),
    hk 28 (by decide) (by decide), hk 29 (by decide) (by decide), hk 30 (by decide) (by decide), hk 31 (by decide) (by decide), hk 32 (by decide) (by decide), hk 33 (by decide) (by decide), if_false]
  have hf : isFrac x = true := by unfold isFrac; rw [h1]; rcases hc with rfl | rfl <;> rfl
  rw [if_pos hf, h1, h3]
  unfold fracN
  rw [h2]
  rfl
/-- one element alone -/
theorem fmt_kind (t : Tm) (K : Int) (h : pieceOk ⟨K, [], 0, false⟩ = true) (h0 : K ≠ 0) (h3 : isFraction K = false) : fmt t (element ⟨K, [], 0, false⟩) = elem t (codeOf ⟨K, [], 0, false⟩) := by
  have ha : allFrom none [⟨K, [], 0, false⟩] = true := by simp [allFrom, stepOk, h, h3]
  have := fmt_pieces t [⟨K, [], 0, false⟩] none [] rfl ha
  simpa [layout, written, wr, h0] using this
end Go.Proofs.YtgcjhakhepgjlaaDoor.Fs
