/-
  THE PLAIN MODEL, part 1: what the small functions on texts compute, in plain Lean on lists of bytes and integers. Nothing of the program is imported.
-/
namespace Go.Proofs.YtgcjhakhepgjlaaDoor.Fs

abbrev Bs := List UInt8

/-! ### digits -/
def isDig (c : UInt8) : Bool := decide (48 ≤ c.toNat) && decide (c.toNat ≤ 57)
def digAt (l : Bs) (i : Nat) : Bool := match l[i]? with
  | some c => isDig c
  | none => false

/-- the digits at the head of a text, from x on -/
def lead (x : Nat) : Bs → Option (Nat × Bs)
  | [] => some (x, [])
  | c :: t => if isDig c then (if 922337203685477580 < x then none else if 9223372036854775808 < x * 10 + c.toNat - 48 then none else lead (x * 10 + c.toNat - 48) t) else some (x, c :: t)

theorem lead_bd : ∀ (l : Bs) (x : Nat), x ≤ 9223372036854775808 → ∀ y r, lead x l = some (y, r) → y ≤ 9223372036854775808 ∧ r.length ≤ l.length
  | [], x, hx, y, r, h => by
    simp only [lead, Option.some.injEq, Prod.mk.injEq] at h
    obtain ⟨rfl, rfl⟩ := h
    exact ⟨hx, by simp⟩
  | c :: t, x, hx, y, r, h => by
    unfold lead at h
    split at h
    · split at h
      · cases h
      · split at h
        · cases h
        · have := lead_bd t _ (by omega) y r h
          exact ⟨this.1, by simp; omega⟩
    · simp only [Option.some.injEq, Prod.mk.injEq] at h
      obtain ⟨rfl, rfl⟩ := h
      exact ⟨hx, by simp⟩

/-- a sign ahead of a number: (is it a minus, what is left) -/
def sign (l : Bs) : Bool × Bs := match l with
  | [] => (false, [])
  | c :: t => if c = 45 then (true, t) else if c = 43 then (false, t) else (false, c :: t)

/-- atoi: the number where there is one (within 18 digits, and beyond) -/
def w64 (n : Int) : Int := (n + 9223372036854775808) % 18446744073709551616 - 9223372036854775808
def atoi (l : Bs) : Option Int := match lead 0 (sign l).2 with
  | some (x, []) => some (if (sign l).1 then w64 (- w64 x) else w64 x)
  | _ => none

theorem atoi_none {l t : List UInt8} {b : Bool} (hs : sign l = (b, t)) (h : lead 0 t = none) : atoi l = none := by
  simp [atoi, hs, h]
theorem atoi_rest {l t : List UInt8} {b : Bool} {x : Nat} {d : UInt8} {r : List UInt8} (hs : sign l = (b, t)) (h : lead 0 t = some (x, d :: r)) : atoi l = none := by
  simp [atoi, hs, h]
theorem atoi_pos {l t : List UInt8} {x : Nat} (hs : sign l = (false, t)) (h : lead 0 t = some (x, [])) : atoi l = some (w64 x) := by
  simp [atoi, hs, h]
theorem atoi_neg {l t : List UInt8} {x : Nat} (hs : sign l = (true, t)) (h : lead 0 t = some (x, [])) : atoi l = some (w64 (- w64 x)) := by
  simp [atoi, hs, h]


/-- the length of a signed number of hours -/
def signedLen (l : Bs) : Nat := match l with
  | [] => 0
  | c :: t => if c = 45 ∨ c = 43 then (match lead 0 t with
    | some (x, r) => if t = r then 0 else if 23 < x then 0 else (c :: t).length - r.length
    | none => 0) else 0

def gmtLen (l : Bs) : Nat := if l.length = 3 then 3 else 3 + signedLen (l.drop 3)

/-- the number of great letters at the head, at most n -/
def isUp (c : UInt8) : Bool := decide (65 ≤ c.toNat) && decide (c.toNat ≤ 90)
def uppers : Nat → Bs → Nat
  | 0, _ => 0
  | _, [] => 0
  | n + 1, c :: t => if isUp c then uppers n t + 1 else 0

def tzU (l : Bs) (u : Nat) : Nat × Bool := match u with
  | 3 => (3, true)
  | 4 => if l[3]? = some 84 ∨ l.take 4 = [87, 73, 84, 65] then (4, true) else (0, false)
  | 5 => if l[4]? = some 84 then (5, true) else (0, false)
  | _ => (0, false)
def tz (l : Bs) : Nat × Bool :=
  if l.length < 3 then (0, false)
  else if l.take 4 = [67, 104, 83, 84] ∨ l.take 4 = [77, 101, 83, 84] then (4, true)
  else if l.take 3 = [71, 77, 84] then (gmtLen l, true)
  else if l[0]? = some 43 ∨ l[0]? = some 45 then (signedLen l, decide (0 < signedLen l))
  else tzU l (uppers 6 l)

theorem signedLen_le (l : Bs) : signedLen l ≤ l.length := by
  unfold signedLen
  split
  · simp
  · split
    · split
      · split
        · simp
        · split
          · simp
          · exact Nat.sub_le _ _
      · simp
    · simp
theorem gmtLen_le (l : Bs) (h : 3 ≤ l.length) : gmtLen l ≤ l.length := by
  unfold gmtLen
  split
  · omega
  · have := signedLen_le (l.drop 3); simp at this; omega
theorem uppers_le : ∀ (n : Nat) (l : Bs), uppers n l ≤ n ∧ uppers n l ≤ l.length
  | 0, _ => by simp [uppers]
  | n + 1, [] => by simp [uppers]
  | n + 1, c :: t => by
    unfold uppers
    have := uppers_le n t
    split <;> simp <;> omega
theorem tz_le (l : Bs) : (tz l).1 ≤ l.length := by
  unfold tz
  have hu := (uppers_le 6 l).2
  split
  · simp
  · split
    · rename_i h
      have : (l.take 4).length = 4 := by rcases h with h | h <;> rw [h] <;> rfl
      simp at this
      simp; omega
    · split
      · exact gmtLen_le l (by omega)
      · split
        · exact signedLen_le l
        · generalize uppers 6 l = u at hu
          unfold tzU
          split
          · simpa using hu
          · split <;> simp; omega
          · split <;> simp; omega
          · simp

/-- parseNanoseconds: none where the mark or the digits are wrong; else the nanoseconds, and whether they are out of range (a minus) -/
def comma (c : UInt8) : Bool := decide (c.toNat = 46) || decide (c.toNat = 44)
def nanos (l : Bs) (n : Nat) : Option (Int × Bool) :=
  if (l[0]?.any comma) then
    match atoi (l.tail.take (min n 10 - 1)) with
    | none => none
    | some x => if x < 0 then some (x, true) else some (x * (10 ^ (10 - min n 10) : Nat), false)
  else none

theorem lead_lt : ∀ (l : Bs) (y x : Nat) (r : Bs), lead y l = some (x, r) → x < (y + 1) * 10 ^ l.length
  | [], y, x, r, h => by
    simp only [lead, Option.some.injEq, Prod.mk.injEq] at h
    obtain ⟨rfl, rfl⟩ := h
    simp
  | c :: t, y, x, r, h => by
    unfold lead at h
    split at h
    · split at h
      · cases h
      · split at h
        · cases h
        · rename_i hd _ _
          have := lead_lt t _ x r h
          simp only [isDig, Bool.and_eq_true, decide_eq_true_eq] at hd
          have h2 : y * 10 + c.toNat - 48 + 1 ≤ (y + 1) * 10 := by omega
          refine Nat.lt_of_lt_of_le this ?_
          rw [List.length_cons, Nat.pow_succ]
          have := Nat.mul_le_mul_right (10 ^ t.length) h2
          rw [Nat.mul_assoc, Nat.mul_comm 10] at this
          exact this
    · simp only [Option.some.injEq, Prod.mk.injEq] at h
      obtain ⟨rfl, rfl⟩ := h
      have : 1 ≤ 10 ^ (c :: t).length := Nat.pos_of_ne_zero (by simp)
      have := Nat.mul_le_mul_left (y + 1) this
      omega
theorem w64_in (n : Int) (h : -9223372036854775808 ≤ n ∧ n ≤ 9223372036854775807) : w64 n = n := by unfold w64; omega
theorem sign_len (l : Bs) : (sign l).2.length ≤ l.length := by
  unfold sign
  split
  · simp
  · split
    · simp
    · split <;> simp
theorem pow_le_9 {k : Nat} (h : k ≤ 18) : 10 ^ k ≤ 1000000000000000000 := by
  have : 10 ^ k ≤ 10 ^ 18 := Nat.pow_le_pow_right (by omega) h
  simpa using this
theorem atoi_lt (l : Bs) (h : l.length ≤ 18) (x : Int) (hx : atoi l = some x) : -((10 ^ l.length : Nat) : Int) < x ∧ x < ((10 ^ l.length : Nat) : Int) := by
  have hs := sign_len l
  unfold atoi at hx
  rcases hl : lead 0 (sign l).2 with _ | ⟨q, _ | ⟨d, r⟩⟩
  · rw [hl] at hx; cases hx
  · rw [hl] at hx
    have hq := lead_lt _ _ _ _ hl
    have h2 : 10 ^ (sign l).2.length ≤ 10 ^ l.length := Nat.pow_le_pow_right (by omega) hs
    have h3 := pow_le_9 h
    have hq2 : q < 10 ^ l.length := by omega
    generalize 10 ^ l.length = T at *
    simp only [Option.some.injEq] at hx
    rw [w64_in (q : Int) (by omega)] at hx
    split at hx
    · rw [w64_in _ (by omega)] at hx; omega
    · omega
  · rw [hl] at hx; cases hx

/-! ### texts of digits alone -/
def allDig (l : Bs) : Bool := l.all isDig
def valFrom (y : Nat) (l : Bs) : Nat := l.foldl (fun a c => a * 10 + (c.toNat - 48)) y
def val (l : Bs) : Nat := valFrom 0 l
theorem val_snoc (l : Bs) (c : UInt8) : val (l ++ [c]) = val l * 10 + (c.toNat - 48) := by simp [val, valFrom]
theorem allDig_snoc (l : Bs) (c : UInt8) : allDig (l ++ [c]) = (allDig l && isDig c) := by simp [allDig]
theorem isDig_iff (c : UInt8) : isDig c = true ↔ 48 ≤ c.toNat ∧ c.toNat ≤ 57 := by simp [isDig]
theorem isDig_not (c : UInt8) : isDig c = false ↔ ¬ (48 ≤ c.toNat ∧ c.toNat ≤ 57) := by rw [← isDig_iff]; simp
theorem valFrom_lt : ∀ (l : Bs) (y : Nat), allDig l = true → valFrom y l < (y + 1) * 10 ^ l.length
  | [], y, _ => by simp [valFrom]
  | c :: t, y, h => by
    simp only [allDig, List.all_cons, Bool.and_eq_true] at h
    have hc := (isDig_iff c).1 h.1
    have := valFrom_lt t (y * 10 + (c.toNat - 48)) h.2
    show valFrom (y * 10 + (c.toNat - 48)) t < _
    refine Nat.lt_of_lt_of_le this ?_
    rw [List.length_cons, Nat.pow_succ]
    have h2 : y * 10 + (c.toNat - 48) + 1 ≤ (y + 1) * 10 := by omega
    have := Nat.mul_le_mul_right (10 ^ t.length) h2
    rw [Nat.mul_assoc, Nat.mul_comm 10] at this
    exact this
theorem val_lt (l : Bs) (h : allDig l = true) : val l < 10 ^ l.length := by have := valFrom_lt l 0 h; simpa [val] using this
theorem lead_digits : ∀ (l : Bs) (y : Nat), allDig l = true → (y + 1) * 10 ^ l.length ≤ 1000000000000000000 → lead y l = some (valFrom y l, [])
  | [], y, _, _ => rfl
  | c :: t, y, h, hb => by
    simp only [allDig, List.all_cons, Bool.and_eq_true] at h
    have hc := (isDig_iff c).1 h.1
    rw [List.length_cons, Nat.pow_succ] at hb
    have h2 : y * 10 + (c.toNat - 48) + 1 ≤ (y + 1) * 10 := by omega
    have h3 := Nat.mul_le_mul_right (10 ^ t.length) h2
    rw [Nat.mul_assoc, Nat.mul_comm 10] at h3
    have h4 : 1 ≤ 10 ^ t.length := Nat.pos_of_ne_zero (by simp)
    have h5 : (y + 1) * 10 * 1 ≤ (y + 1) * 10 * 10 ^ t.length := Nat.mul_le_mul_left _ h4
    rw [Nat.mul_assoc, Nat.mul_assoc, Nat.mul_comm 10 (10 ^ t.length)] at h5
    unfold lead
    rw [if_pos h.1, if_neg (by omega), if_neg (by omega)]
    have e : y * 10 + c.toNat - 48 = y * 10 + (c.toNat - 48) := by omega
    rw [e]
    exact lead_digits t _ h.2 (by omega)
theorem lead_not : ∀ (l : Bs) (y : Nat), allDig l = false → (y + 1) * 10 ^ l.length ≤ 1000000000000000000 → ∃ x d r, lead y l = some (x, d :: r)
  | [], y, h, _ => by simp [allDig] at h
  | c :: t, y, h, hb => by
    by_cases hd : isDig c = true
    · have hc := (isDig_iff c).1 hd
      have ht : allDig t = false := by simpa [allDig, hd] using h
      rw [List.length_cons, Nat.pow_succ] at hb
      have h2 : y * 10 + (c.toNat - 48) + 1 ≤ (y + 1) * 10 := by omega
      have h3 := Nat.mul_le_mul_right (10 ^ t.length) h2
      rw [Nat.mul_assoc, Nat.mul_comm 10] at h3
      have h4 : 1 ≤ 10 ^ t.length := Nat.pos_of_ne_zero (by simp)
      have h5 : (y + 1) * 10 * 1 ≤ (y + 1) * 10 * 10 ^ t.length := Nat.mul_le_mul_left _ h4
      rw [Nat.mul_assoc, Nat.mul_assoc, Nat.mul_comm 10 (10 ^ t.length)] at h5
      unfold lead
      rw [if_pos hd, if_neg (by omega), if_neg (by omega)]
      have e : y * 10 + c.toNat - 48 = y * 10 + (c.toNat - 48) := by omega
      rw [e]
      exact lead_not t _ ht (by omega)
    · unfold lead
      rw [if_neg hd]
      exact ⟨_, _, _, rfl⟩
theorem ten_le {n : Nat} (h : n ≤ 18) : (0 + 1) * 10 ^ n ≤ 1000000000000000000 := by have := pow_le_9 h; omega
theorem sign_plain {l : Bs} (h0 : 0 < l.length) (h1 : l[0].toNat ≠ 45) (h2 : l[0].toNat ≠ 43) : sign l = (false, l) := by
  rcases l with _ | ⟨c, t⟩
  · simp at h0
  · have g1 : ¬ c = 45 := fun e => h1 (by simp [e])
    have g2 : ¬ c = 43 := fun e => h2 (by simp [e])
    simp [sign, g1, g2]
/-- what atoi says of a text of at most 18 digits behind a sign (b: a minus) -/
theorem atoi_digits {l t : Bs} {b : Bool} (hs : sign l = (b, t)) (h : allDig t = true) (hl : t.length ≤ 18) : atoi l = some (if b then - (val t : Int) else (val t : Int)) := by
  have h1 := lead_digits t 0 h (ten_le hl)
  have h2 := val_lt t h
  have h3 := pow_le_9 hl
  have e : valFrom 0 t = val t := rfl
  rw [e] at h1
  cases b
  · rw [atoi_pos hs h1, w64_in _ (by omega)]; rfl
  · rw [atoi_neg hs h1, w64_in (val t : Int) (by omega), w64_in _ (by omega)]; rfl
theorem atoi_not {l t : Bs} {b : Bool} (hs : sign l = (b, t)) (h : allDig t = false) (hl : t.length ≤ 18) : atoi l = none := by
  obtain ⟨x, d, r, h1⟩ := lead_not t 0 h (ten_le hl)
  exact atoi_rest hs h1

end Go.Proofs.YtgcjhakhepgjlaaDoor.Fs
