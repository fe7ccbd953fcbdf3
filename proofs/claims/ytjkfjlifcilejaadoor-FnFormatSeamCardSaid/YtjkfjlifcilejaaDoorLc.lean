/-
  THE LAW FnChunkElement: its walk: it returns true at every input.
-/
import Derived.Test.YtjkfjlifcilejaaDoorWv
namespace Go.Proofs.YtjkfjlifcilejaaDoor
open Go.RowKit
set_option linter.unusedVariables false
attribute [local go_sem] ByteArray.extract_mk get_mk ByteArray.toList_mk ByteArray.mk_append_mk take_drop_len

theorem zzFits2_any (K : Int) (T : List UInt8) (N : Int) (C : Bool) (w : World) : Calls Tryd.prog 41 #[.agg #[.int .i64 K, .string ⟨T.toArray⟩, .int .i64 N, .bool C]] w fun e w' => e = .returned (.bool (decide (T.length ≤ 2147483647))) ∧ Below w.heap.size w w' := by
  have b0 := ((Below.refl w.heap.size w).alloc (Nat.le_refl _) (Obj.cells #[.int .i64 K, .string ⟨List.toArray T⟩, .int .i64 N, .bool C] 34))
  by_cases h : (2147483647 : Int) < T.length
  · go_enter Tryd.func41, Tryd.ntmps41
    go_wp2_with fail
    go_ret
    exact ⟨ret_bool (by simp; omega), b0⟩
  · go_enter Tryd.func41, Tryd.ntmps41
    go_wp2_with fail
    go_ret
    exact ⟨ret_bool (by simp; omega), b0⟩


end Go.Proofs.YtjkfjlifcilejaaDoor
