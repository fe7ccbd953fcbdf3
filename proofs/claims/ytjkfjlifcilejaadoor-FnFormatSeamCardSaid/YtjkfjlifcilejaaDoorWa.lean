/-
  WALKS, part a: the small functions on texts.
-/
import Derived.Test.YtjkfjlifcilejaaDoorStr
import Derived.Deep.QuietTactic
import Derived.BigQuiet
import Derived.Test.YtjkfjlifcilejaaDoorFs
namespace Go.Proofs.YtjkfjlifcilejaaDoor
open Go.RowKit
set_option linter.unusedVariables false
attribute [local go_sem] ByteArray.extract_mk get_mk ByteArray.toList_mk ByteArray.mk_append_mk take_drop_len

theorem isDigit_any (l : List UInt8) (i : Nat) (w : World) (hl : l.length ≤ 140737488351232) (hi : i ≤ 140737488351232) :
    Calls Tryd.prog 103 #[.string ⟨l.toArray⟩, .int .i64 i] w fun e w' => e = .returned (.bool (Fs.digAt l i)) ∧ Qt w w' := by
  by_cases hlt : i < l.length
  · go_enter Tryd.func103, Tryd.ntmps103
    go_wp2
    all_goals go_ret
    all_goals refine ⟨ret_bool ?_, Qt.refl _⟩
    all_goals simp only [Fs.digAt, Fs.isDig, List.getElem?_eq_getElem hlt]
    all_goals rw [Bool.eq_iff_iff]
    all_goals simp <;> omega
  · go_enter Tryd.func103, Tryd.ntmps103
    go_wp2
    go_ret
    exact ⟨ret_bool (by simp [Fs.digAt, List.getElem?_eq_none (show l.length ≤ i by omega)]), Qt.refl _⟩


/-- what leadingInt answers: the number and the rest, or the package's error ev -/
def leadV (ev : Value) : Option (Nat × List UInt8) → Value
  | some (x, r) => .tuple #[.int .u64 x, .string ⟨r.toArray⟩, .nilIface]
  | none => .tuple #[.int .u64 0, .string ⟨#[]⟩, ev]
theorem leadV_yes {ev : Value} {o : Option (Nat × List UInt8)} {x : Nat} {r : List UInt8} (h : some (x, r) = o) : Value.tuple #[.int .u64 x, .string ⟨r.toArray⟩, .nilIface] = leadV ev o := by
  subst h; rfl
theorem leadV_no {ev : Value} {o : Option (Nat × List UInt8)} (h : none = o) : Value.tuple #[.int .u64 0, .string ⟨#[]⟩, ev] = leadV ev o := by
  subst h; rfl

end Go.Proofs.YtjkfjlifcilejaaDoor
