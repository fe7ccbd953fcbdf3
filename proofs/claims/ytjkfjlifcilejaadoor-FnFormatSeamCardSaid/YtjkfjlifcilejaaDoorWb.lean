/-
  WALKS, part b: atoi, signed offsets, zone abbreviations, fractions.
-/
import Derived.Test.YtjkfjlifcilejaaDoorWa
namespace Go.Proofs.YtjkfjlifcilejaaDoor
open Go.RowKit
set_option linter.unusedVariables false
attribute [local go_sem] ByteArray.extract_mk get_mk ByteArray.toList_mk ByteArray.mk_append_mk take_drop_len

theorem w64_wrap (n : Int) : Fs.w64 n = wrap64 n := by unfold Fs.w64 wrap64; rfl

def atoiV (ev : Value) : Option Int → Value
  | some x => .tuple #[.int .i64 x, .nilIface]
  | none => .tuple #[.int .i64 0, ev]

theorem atoiV_yes {ev : Value} {o : Option Int} {x : Int} (h : o = some x) : Value.tuple #[.int .i64 x, .nilIface] = atoiV ev o := by subst h; rfl
theorem atoiV_no {ev : Value} {o : Option Int} (h : o = none) : Value.tuple #[.int .i64 0, ev] = atoiV ev o := by subst h; rfl

theorem signedLen_mark {c : UInt8} {t : List UInt8} (h : c.toNat = 45 ∨ c.toNat = 43) : Fs.signedLen (c :: t) = match Fs.lead 0 t with
    | some (x, r) => if t = r then 0 else if 23 < x then 0 else (c :: t).length - r.length
    | none => 0 := by
  have : c = 45 ∨ c = 43 := by
    rcases h with h | h
    · exact .inl (UInt8.toNat_inj.1 h)
    · exact .inr (UInt8.toNat_inj.1 h)
  simp only [Fs.signedLen, if_pos this]
  rfl

end Go.Proofs.YtjkfjlifcilejaaDoor
