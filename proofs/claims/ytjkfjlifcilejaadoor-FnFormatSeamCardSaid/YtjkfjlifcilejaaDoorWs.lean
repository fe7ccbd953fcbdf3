/-
  WALKS, part s: the reference's small functions.
-/
import Derived.Test.YtjkfjlifcilejaaDoorWd
import Derived.Test.YtjkfjlifcilejaaDoorFp
namespace Go.Proofs.YtjkfjlifcilejaaDoor
open Go.RowKit
set_option linter.unusedVariables false
attribute [local go_sem] ByteArray.extract_mk get_mk ByteArray.toList_mk ByteArray.mk_append_mk take_drop_len

theorem within_any (n a b : Int) (w : World) : Calls Tryd.prog 24 #[.int .i64 n, .int .i64 a, .int .i64 b] w fun e w' => e = .returned (.bool (Fs.within n a b)) ∧ Qt w w' := by
  by_cases h : a ≤ n
  · go_enter Tryd.func24, Tryd.ntmps24
    go_wp2
    go_ret
    exact ⟨ret_bool (by simp [Fs.within, h]), Qt.refl _⟩
  · go_enter Tryd.func24, Tryd.ntmps24
    go_wp2
    go_ret
    exact ⟨ret_bool (by simp [Fs.within]; omega), Qt.refl _⟩
theorem isFraction_any (n : Int) (w : World) : Calls Tryd.prog 43 #[.int .i64 n] w fun e w' => e = .returned (.bool (Fs.isFraction n)) ∧ Qt w w' := by
  by_cases h : n = 33
  · have b1 : (n == 33) = true := by rw [beq_iff_eq]; exact h
    have HX : Hid (Fs.isFraction n = true) := by show _ = _; simp [Fs.isFraction, h]
    clear h
    go_enter Tryd.func43, Tryd.ntmps43
    go_wp2
    go_ret
    exact ⟨ret_bool HX.out.symm, Qt.refl _⟩
  · have b1 : (n == 33) = false := by rw [beq_eq_false_iff_ne]; exact h
    have HX : Hid (Fs.isFraction n = (n == 34)) := by show _ = _; simp [Fs.isFraction, h]
    clear h
    go_enter Tryd.func43, Tryd.ntmps43
    go_wp2
    go_ret
    exact ⟨ret_bool HX.out.symm, Qt.refl _⟩
theorem isSecond_any (n : Int) (w : World) : Calls Tryd.prog 58 #[.int .i64 n] w fun e w' => e = .returned (.bool (Fs.isSecond n)) ∧ Qt w w' := by
  by_cases h : n = 19
  · have b1 : (n == 19) = true := by rw [beq_iff_eq]; exact h
    have HX : Hid (Fs.isSecond n = true) := by show _ = _; simp [Fs.isSecond, h]
    clear h
    go_enter Tryd.func58, Tryd.ntmps58
    go_wp2
    go_ret
    exact ⟨ret_bool HX.out.symm, Qt.refl _⟩
  · have b1 : (n == 19) = false := by rw [beq_eq_false_iff_ne]; exact h
    have HX : Hid (Fs.isSecond n = (n == 20)) := by show _ = _; simp [Fs.isSecond, h]
    clear h
    go_enter Tryd.func58, Tryd.ntmps58
    go_wp2
    go_ret
    exact ⟨ret_bool HX.out.symm, Qt.refl _⟩
theorem isZone_any (n : Int) (w : World) : Calls Tryd.prog 44 #[.int .i64 n] w fun e w' => e = .returned (.bool (Fs.isZone n)) ∧ Qt w w' := by
  go_enter Tryd.func44, Tryd.ntmps44
  go_wp2_with fail
  refine (within_any n 22 31 _).mono ?_
  rintro e w2 ⟨rfl, hq⟩
  go_wp2_with fail
  go_ret
  exact ⟨rfl, hq⟩
theorem isISO_any (n : Int) (w : World) : Calls Tryd.prog 59 #[.int .i64 n] w fun e w' => e = .returned (.bool (Fs.isISO n)) ∧ Qt w w' := by
  go_enter Tryd.func59, Tryd.ntmps59
  go_wp2_with fail
  refine (within_any n 27 31 _).mono ?_
  rintro e w2 ⟨rfl, hq⟩
  go_wp2_with fail
  go_ret
  exact ⟨rfl, hq⟩
theorem mark_any (b : Bool) (w : World) : Calls Tryd.prog 48 #[.bool b] w fun e w' => e = .returned (.string ⟨(Fs.markB b).toArray⟩) ∧ Qt w w' := by
  cases b
  all_goals
    go_enter Tryd.func48, Tryd.ntmps48
    go_wp2_with fail
    go_ret
    exact ⟨rfl, Qt.refl _⟩

end Go.Proofs.YtjkfjlifcilejaaDoor
