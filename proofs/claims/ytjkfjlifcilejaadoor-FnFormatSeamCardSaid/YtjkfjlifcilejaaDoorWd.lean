/-
  WALKS, part d: fractions of a second; the thin package over the small functions.
-/
import Derived.Test.YtjkfjlifcilejaaDoorWc
namespace Go.Proofs.YtjkfjlifcilejaaDoor
open Go.RowKit
set_option linter.unusedVariables false
attribute [local go_sem] ByteArray.extract_mk get_mk ByteArray.toList_mk ByteArray.mk_append_mk take_drop_len

/-- what parseNanoseconds answers: nanoseconds, the range's text, an error (bad: of a wrong mark; ea: of a wrong number) -/
def nanoV (bad ea : Value) (l : List UInt8) (n : Nat) : Value :=
  if (l[0]?.any Fs.comma) then (match Fs.nanos l n with
    | some (x, true) => .tuple #[.int .i64 x, .string ⟨[102, 114, 97, 99, 116, 105, 111, 110, 97, 108, 32, 115, 101, 99, 111, 110, 100].toArray⟩, .nilIface]
    | some (x, false) => .tuple #[.int .i64 x, .string ⟨#[]⟩, .nilIface]
    | none => .tuple #[.int .i64 0, .string ⟨#[]⟩, ea])
  else .tuple #[.int .i64 0, .string ⟨#[]⟩, bad]

theorem nanoV_bad {bad ea : Value} {l : List UInt8} {n : Nat} (h : (l[0]?.any Fs.comma) = false) : .tuple #[.int .i64 0, .string ⟨#[]⟩, bad] = nanoV bad ea l n := by
  simp [nanoV, h]
theorem nanoV_ea {bad ea : Value} {l : List UInt8} {n : Nat} (h : (l[0]?.any Fs.comma) = true) (h2 : Fs.atoi (l.tail.take (min n 10 - 1)) = none) : .tuple #[.int .i64 0, .string ⟨#[]⟩, ea] = nanoV bad ea l n := by
  simp [nanoV, Fs.nanos, h, h2]
theorem nanoV_neg {bad ea : Value} {l : List UInt8} {n : Nat} {x : Int} (h : (l[0]?.any Fs.comma) = true) (h2 : Fs.atoi (l.tail.take (min n 10 - 1)) = some x) (h3 : x < 0) :
    .tuple #[.int .i64 x, .string ⟨[102, 114, 97, 99, 116, 105, 111, 110, 97, 108, 32, 115, 101, 99, 111, 110, 100].toArray⟩, .nilIface] = nanoV bad ea l n := by
  simp [nanoV, Fs.nanos, h, h2, h3]
theorem nanoV_pos {bad ea : Value} {l : List UInt8} {n : Nat} {x y : Int} (h : (l[0]?.any Fs.comma) = true) (h2 : Fs.atoi (l.tail.take (min n 10 - 1)) = some x) (h3 : ¬ x < 0) (h4 : y = x * ((10 ^ (10 - min n 10) : Nat) : Int)) :
    .tuple #[.int .i64 y, .string ⟨#[]⟩, .nilIface] = nanoV bad ea l n := by
  subst h4
  simp [nanoV, Fs.nanos, h, h2, h3]

theorem scale_step {x : Int} {m i : Nat} (h0 : 0 ≤ x) (h1 : x < ((10 ^ (m - 1) : Nat) : Int)) (hm : 1 ≤ m) (hm2 : m ≤ 10) (hi : i < 10 - m) :
    0 ≤ x * ((10 ^ i : Nat) : Int) ∧ x * ((10 ^ i : Nat) : Int) < 100000000 := by
  obtain ⟨y, rfl⟩ := Int.eq_ofNat_of_zero_le h0
  have h2 : y < 10 ^ (m - 1) := by omega
  have h3 : y * 10 ^ i < 100000000 := by
    have a : 0 < 10 ^ i := Nat.pos_of_ne_zero (by simp)
    have h4 : y * 10 ^ i < 10 ^ (m - 1) * 10 ^ i := Nat.mul_lt_mul_of_pos_right h2 a
    rw [← Nat.pow_add] at h4
    have h5 : 10 ^ (m - 1 + i) ≤ 10 ^ 8 := Nat.pow_le_pow_right (by omega) (by omega)
    omega
  have e : (y : Int) * ((10 ^ i : Nat) : Int) = ((y * 10 ^ i : Nat) : Int) := by rw [Int.natCast_mul]
  rw [e]
  constructor <;> omega

/-! ### the exports and the thin package -/
end Go.Proofs.YtjkfjlifcilejaaDoor
