/-
  WALKS, part s: the reference's small functions.
-/
import Derived.Test.YtgcjhakhepgjlaaDoorWd
import Derived.Test.YtgcjhakhepgjlaaDoorFp
namespace Go.Proofs.YtgcjhakhepgjlaaDoor
open Go.RowKit
set_option linter.unusedVariables false
attribute [local go_sem] ByteArray.extract_mk get_mk ByteArray.toList_mk ByteArray.mk_append_mk take_drop_len

theorem within_any (n a b : Int) (w : World) : Calls Tryd.prog 6 #[.int .i64 n, .int .i64 a, .int .i64 b] w fun e w' => e = .returned (.bool (Fs.within n a b)) ∧ Qt w w' := by
  by_cases h : a ≤ n
  · go_enter Tryd.func6, Tryd.ntmps6
    go_wp2
    go_ret
    exact ⟨ret_bool (by simp [Fs.within, h]), Qt.refl _⟩
  · go_enter Tryd.func6, Tryd.ntmps6
    go_wp2
    go_ret
    exact ⟨ret_bool (by simp [Fs.within]; omega), Qt.refl _⟩
end Go.Proofs.YtgcjhakhepgjlaaDoor
