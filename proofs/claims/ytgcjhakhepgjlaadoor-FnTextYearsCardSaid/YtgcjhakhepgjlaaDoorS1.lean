/-
  WALKS, the reference's calendar: Leap, Days, DateOk, ZoneOk, CivilOk; the sizes.
-/
import Derived.Test.YtgcjhakhepgjlaaDoorT1
import Derived.Test.YtgcjhakhepgjlaaDoorWs
import Derived.Test.YtgcjhakhepgjlaaDoorP2
namespace Go.Proofs.YtgcjhakhepgjlaaDoor
open Go.RowKit
set_option linter.unusedVariables false
set_option linter.unusedSimpArgs false
attribute [local go_sem] ByteArray.extract_mk get_mk ByteArray.toList_mk ByteArray.mk_append_mk take_drop_len

namespace Fs
def dateOk (y m d : Int) : Bool := within y 0 9999 && (within m 1 12 && within d 1 (monthLen y m.toNat))
def zoneOk (name : Bs) (off : Int) : Bool := !name.isEmpty && (decide (name.length ≤ 100) && (within off (-86399) 86399 && ((off == 0 || (decide (off ≤ -60) || decide (60 ≤ off))) && (name != [85, 84, 67] || off == 0))))
def civilOk (y m d h mi s ns : Int) (name : Bs) (off : Int) : Bool := dateOk y m d && (within h 0 23 && (within mi 0 59 && (within s 0 59 && (within ns 0 999999999 && zoneOk name off))))
theorem within_iff {n a b : Int} : within n a b = true ↔ a ≤ n ∧ n ≤ b := by simp [within]
end Fs

theorem leapS_any (y : Nat) (w : World) : Calls Tryd.prog 32 #[.int .i64 (y : Nat)] w fun e w' => e = .returned (.bool (Fs.leap y)) ∧ Qt w w' := by
  by_cases h4 : y % 4 = 0
  · have e1 : (((y : Int) % 4) == 0) = true := by rw [beq_iff_eq]; omega
    by_cases h100 : y % 100 = 0
    · have e2 : (((y : Int) % 100) == 0) = true := by rw [beq_iff_eq]; omega
      have n2 : (((y : Int) % 100) != 0) = false := by simp only [bne, e2]; rfl
      have HX : Hid (Fs.leap y = (((y : Int) % 400) == 0)) := by
        show _ = _
        have h4' : (y : Int) % 4 = 0 := by omega
        have h100' : (y : Int) % 100 = 0 := by omega
        simp [Fs.leap, h4', h100']
      clear h4 h100
      go_enter Tryd.func32, Tryd.ntmps32
      go_wp2
      go_ret
      exact ⟨ret_bool HX.out.symm, Qt.refl _⟩
    · have e2 : (((y : Int) % 100) == 0) = false := by rw [beq_eq_false_iff_ne]; omega
      have n2 : (((y : Int) % 100) != 0) = true := by simp only [bne, e2]; rfl
      have HX : Hid (Fs.leap y = true) := by
        show _ = _
        have h4' : (y : Int) % 4 = 0 := by omega
        have h100' : ¬ (y : Int) % 100 = 0 := by omega
        simp [Fs.leap, h4', h100']
      clear h4 h100
      go_enter Tryd.func32, Tryd.ntmps32
      go_wp2
      go_ret
      exact ⟨ret_bool HX.out.symm, Qt.refl _⟩
  · have e1 : (((y : Int) % 4) == 0) = false := by rw [beq_eq_false_iff_ne]; omega
    have e3 : (((y : Int) % 400) == 0) = false := by rw [beq_eq_false_iff_ne]; omega
    have HX : Hid (Fs.leap y = false) := by
      show _ = _
      have h4' : ¬ (y : Int) % 4 = 0 := by omega
      simp [Fs.leap, h4']
    clear h4
    go_enter Tryd.func32, Tryd.ntmps32
    go_wp2
    go_ret
    exact ⟨ret_bool HX.out.symm, Qt.refl _⟩
theorem days_of (y m : Nat) (m1 : 1 ≤ m) (m2 : m ≤ 12) (w : World) : Calls Tryd.prog 18 #[.int .i64 (y : Nat), .int .i64 (m : Nat)] w fun e w' => e = .returned (.int .i64 (Fs.monthLen y m : Nat)) ∧ Qt w w' := by
  have hm : m = 1 ∨ m = 2 ∨ m = 3 ∨ m = 4 ∨ m = 5 ∨ m = 6 ∨ m = 7 ∨ m = 8 ∨ m = 9 ∨ m = 10 ∨ m = 11 ∨ m = 12 := by omega
  clear m1 m2
  by_cases h2 : m = 2
  · subst h2
    clear hm
    generalize hb : Fs.leap y = b
    cases b
    · have HX : Hid (Fs.monthLen y 2 = 28) := by show _ = _; simp [Fs.monthLen, hb]
      go_enter Tryd.func18, Tryd.ntmps18
      go_wp2_with fail
      refine (leapS_any y _).mono ?_
      rw [hb]
      rintro e w2 ⟨rfl, hq⟩
      clear hb
      go_wp2_with fail
      go_ret
      exact ⟨ret_int (by rw [HX.out]; rfl), hq⟩
    · have HX : Hid (Fs.monthLen y 2 = 29) := by show _ = _; simp [Fs.monthLen, hb]
      go_enter Tryd.func18, Tryd.ntmps18
      go_wp2_with fail
      refine (leapS_any y _).mono ?_
      rw [hb]
      rintro e w2 ⟨rfl, hq⟩
      clear hb
      go_wp2_with fail
      go_ret
      exact ⟨ret_int (by rw [HX.out]; rfl), hq⟩
  · rcases hm with rfl | rfl | rfl | rfl | rfl | rfl | rfl | rfl | rfl | rfl | rfl | rfl
    case inr.inl => exact absurd rfl h2
    all_goals
      clear h2
      go_enter Tryd.func18, Tryd.ntmps18
      go_wp2_with fail
      go_ret
      exact ⟨rfl, Qt.refl _⟩

theorem dateOk_any (y m d : Int) (w : World) : Calls Tryd.prog 9 #[.int .i64 y, .int .i64 m, .int .i64 d] w fun e w' => e = .returned (.bool (Fs.dateOk y m d)) ∧ Qt w w' := by
  generalize h1 : Fs.within y 0 9999 = b1
  cases b1
  · have HX : Hid (Fs.dateOk y m d = false) := by show _ = _; simp [Fs.dateOk, h1]
    go_enter Tryd.func9, Tryd.ntmps9
    go_wp2_with fail
    refine (within_any y 0 9999 _).mono ?_
    rw [h1]
    rintro e w2 ⟨rfl, hq⟩
    clear h1
    go_wp2_with fail
    go_ret
    exact ⟨ret_bool HX.out.symm, hq⟩
  generalize h2 : Fs.within m 1 12 = b2
  cases b2
  · have HX : Hid (Fs.dateOk y m d = false) := by show _ = _; simp [Fs.dateOk, h1, h2]
    go_enter Tryd.func9, Tryd.ntmps9
    go_wp2_with fail
    refine (within_any y 0 9999 _).mono ?_
    rw [h1]
    rintro e w2 ⟨rfl, hq⟩
    clear h1
    go_wp2_with fail
    refine (within_any m 1 12 _).mono ?_
    rw [h2]
    rintro e w3 ⟨rfl, hq3⟩
    clear h2
    go_wp2_with fail
    go_ret
    exact ⟨ret_bool HX.out.symm, hq.trans hq3⟩
  have HX : Hid (Fs.dateOk y m d = Fs.within d 1 (Fs.monthLen y m.toNat)) := by show _ = _; simp [Fs.dateOk, h1, h2]
  have f1 := Fs.within_iff.1 h1
  have f2 := Fs.within_iff.1 h2
  obtain ⟨Y, rfl⟩ : ∃ Y : Nat, y = (Y : Int) := ⟨y.toNat, by omega⟩
  obtain ⟨M, rfl⟩ : ∃ M : Nat, m = (M : Int) := ⟨m.toNat, by omega⟩
  rw [Int.toNat_natCast] at HX
  have HD := fun w => days_of Y M (by omega) (by omega) w
  clear f1 f2
  generalize Fs.monthLen Y M = K at HX HD
  have HD := hide HD
  go_enter Tryd.func9, Tryd.ntmps9
  go_wp2_with fail
  refine (within_any _ 0 9999 _).mono ?_
  rw [h1]
  rintro e w2 ⟨rfl, hq⟩
  clear h1
  go_wp2_with fail
  refine (within_any _ 1 12 _).mono ?_
  rw [h2]
  rintro e w3 ⟨rfl, hq3⟩
  clear h2
  go_wp2_with fail
  refine (HD.out _).mono ?_
  rintro e w4 ⟨rfl, hq4⟩
  go_wp2_with fail
  refine (within_any d 1 K _).mono ?_
  rintro e w5 ⟨rfl, hq5⟩
  go_wp2_with fail
  go_ret
  exact ⟨ret_bool HX.out.symm, ((hq.trans hq3).trans hq4).trans hq5⟩

theorem zzFits4_any (name : List UInt8) (off : Int) (w : World) : Calls Tryd.prog 19 #[.agg #[.string ⟨name.toArray⟩, .int .i64 off]] w fun e w' => e = .returned (.bool (decide (name.length ≤ 2147483647))) ∧ Below w.heap.size w w' := by
  have b0 := ((Below.refl w.heap.size w).alloc (Nat.le_refl _) (Obj.cells #[.string ⟨name.toArray⟩, .int .i64 off] 25))
  by_cases h : (2147483647 : Int) < name.length
  · go_enter Tryd.func19, Tryd.ntmps19
    go_wp2_with fail
    go_ret
    exact ⟨ret_bool (by simp; omega), b0⟩
  · go_enter Tryd.func19, Tryd.ntmps19
    go_wp2_with fail
    go_ret
    exact ⟨ret_bool (by simp; omega), b0⟩
theorem zzFits3_any (y m d h mi s ns : Int) (name : List UInt8) (off : Int) (w : World) : Calls Tryd.prog 10 #[civilV y m d h mi s ns name off] w fun e w' => e = .returned (.bool (decide (name.length ≤ 2147483647))) ∧ Below w.heap.size w w' := by
  unfold civilV
  have b0 := ((Below.refl w.heap.size w).alloc (Nat.le_refl _) (Obj.cells #[.int .i64 y, .int .i64 m, .int .i64 d, .int .i64 h, .int .i64 mi, .int .i64 s, .int .i64 ns, .string ⟨name.toArray⟩, .int .i64 off] 27))
  generalize hb : decide (name.length ≤ 2147483647) = b
  cases b
  all_goals
    go_enter Tryd.func10, Tryd.ntmps10
    go_wp2_with fail
    refine (zzFits4_any name off _).mono ?_
    rw [hb]
    rintro e w2 ⟨rfl, hq⟩
    clear hb
    go_wp2_with fail
    go_ret
    exact ⟨rfl, b0.trans (hq.mono (by simp))⟩

theorem utcB_eq : utcB = [85, 84, 67] := rfl
theorem zoneOk_any (name : List UInt8) (hl : name.length ≤ 140737488351230) (off : Int) (w : World) : Calls Tryd.prog 20 #[.agg #[.string ⟨name.toArray⟩, .int .i64 off]] w fun e w' => e = .returned (.bool (Fs.zoneOk name off)) ∧ Below w.heap.size w w' := by
  have b0 := ((Below.refl w.heap.size w).alloc (Nat.le_refl _) (Obj.cells #[.string ⟨name.toArray⟩, .int .i64 off] 25))
  by_cases h0 : name = []
  · have HX : Hid (Fs.zoneOk name off = false) := by show _ = _; simp [Fs.zoneOk, h0]
    subst h0
    go_enter Tryd.func20, Tryd.ntmps20
    go_wp2_with fail
    go_ret
    exact ⟨ret_bool HX.out.symm, b0⟩
  have e0 : name.isEmpty = false := by simpa using h0
  have e1 : (name == []) = false := by rw [beq_eq_false_iff_ne]; exact h0
  have e2 : (name != []) = true := by simpa using h0
  clear h0
  by_cases h100 : (name.length : Int) ≤ 100
  rotate_left
  · have HX : Hid (Fs.zoneOk name off = false) := by
      show _ = _
      have : ¬ name.length ≤ 100 := by omega
      simp [Fs.zoneOk, this]
    go_enter Tryd.func20, Tryd.ntmps20
    go_wp2_with fail
    go_ret
    exact ⟨ret_bool HX.out.symm, b0⟩
  have h100' : decide (name.length ≤ 100) = true := by rw [decide_eq_true_eq]; omega
  generalize hw : Fs.within off (-86399) 86399 = bw
  cases bw
  · have HX : Hid (Fs.zoneOk name off = false) := by show _ = _; simp [Fs.zoneOk, hw]
    go_enter Tryd.func20, Tryd.ntmps20
    go_wp2_with fail
    refine (within_any off (-86399) 86399 _).mono ?_
    rw [hw]
    rintro e w2 ⟨rfl, hq⟩
    clear hw
    go_wp2_with fail
    go_ret
    exact ⟨ret_bool HX.out.symm, b0.trans (hq.below _)⟩
  by_cases hz : off = 0
  · have HX : Hid (Fs.zoneOk name off = true) := by show _ = _; simp only [Fs.zoneOk, hw, hz, e0, h100']; simp [Fs.within]
    subst hz
    have hcase : ∀ b : Bool, (name != [85, 84, 67]) = b → Calls Tryd.prog 20 #[.agg #[.string ⟨name.toArray⟩, .int .i64 0]] w fun e w' => e = .returned (.bool true) ∧ Below w.heap.size w w' := by
      intro b hb
      clear HX
      have u1 : (name == [85, 84, 67]) = !b := by rw [← hb]; simp [bne]
      cases b
      all_goals
        simp only [Bool.not_true, Bool.not_false] at u1
        go_enter Tryd.func20, Tryd.ntmps20
        go_wp2_with fail
        refine (within_any 0 (-86399) 86399 _).mono ?_
        rw [hw]
        rintro e w2 ⟨rfl, hq⟩
        clear hw
        have c0 : w2.cell? ⟨w.heap.size, 0, none⟩ = some (.string ⟨name.toArray⟩) := hq.cell (World.cell?_alloc_mark w _ _ _ 0)
        have c1 : w2.cell? ⟨w.heap.size, 1, none⟩ = some (.int .i64 0) := hq.cell (World.cell?_alloc_mark w _ _ _ 1)
        go_wp2_with fail
        go_ret
        exact ⟨rfl, b0.trans (hq.below _)⟩
    rw [HX.out]
    exact hcase _ rfl
  have z1 : (off == 0) = false := by rw [beq_eq_false_iff_ne]; exact hz
  by_cases hn : off ≤ -60 ∨ 60 ≤ off
  rotate_left
  · have HX : Hid (Fs.zoneOk name off = false) := by
      show _ = _
      have g1 : ¬ off ≤ -60 := by omega
      have g2 : ¬ 60 ≤ off := by omega
      simp [Fs.zoneOk, hz, g1, g2]
    have g1 : ¬ off ≤ -60 := by omega
    have g2 : ¬ 60 ≤ off := by omega
    clear hz hn
    go_enter Tryd.func20, Tryd.ntmps20
    go_wp2_with fail
    refine (within_any off (-86399) 86399 _).mono ?_
    rw [hw]
    rintro e w2 ⟨rfl, hq⟩
    clear hw
    have c1 : w2.cell? ⟨w.heap.size, 1, none⟩ = some (.int .i64 off) := hq.cell (World.cell?_alloc_mark w _ _ _ 1)
    go_wp2_with fail
    go_ret
    exact ⟨ret_bool HX.out.symm, b0.trans (hq.below _)⟩
  have HX : Hid (Fs.zoneOk name off = (name != [85, 84, 67])) := by
    show _ = _
    have : (decide (off ≤ -60) || decide (60 ≤ off)) = true := by simpa using hn
    simp only [Fs.zoneOk, hw, e0, h100', z1, this]
    simp
  have hcase : ∀ b : Bool, (name != [85, 84, 67]) = b → Calls Tryd.prog 20 #[.agg #[.string ⟨name.toArray⟩, .int .i64 off]] w fun e w' => e = .returned (.bool b) ∧ Below w.heap.size w w' := by
    intro b hb
    clear HX
    have u1 : (name == [85, 84, 67]) = !b := by rw [← hb]; simp [bne]
    have u3 : (name.toArray == #[85, 84, 67]) = !b := by rw [← u1]; simp
    by_cases g1 : off ≤ -60
    · clear hn hz
      cases b
      all_goals
        simp only [Bool.not_true, Bool.not_false] at u1 u3
        go_enter Tryd.func20, Tryd.ntmps20
        go_wp2_with fail
        refine (within_any off (-86399) 86399 _).mono ?_
        rw [hw]
        rintro e w2 ⟨rfl, hq⟩
        clear hw
        have c0 : w2.cell? ⟨w.heap.size, 0, none⟩ = some (.string ⟨name.toArray⟩) := hq.cell (World.cell?_alloc_mark w _ _ _ 0)
        have c1 : w2.cell? ⟨w.heap.size, 1, none⟩ = some (.int .i64 off) := hq.cell (World.cell?_alloc_mark w _ _ _ 1)
        go_wp2_with fail
        go_ret
        exact ⟨rfl, b0.trans (hq.below _)⟩
    · have g2 : 60 ≤ off := by omega
      clear hn hz
      cases b
      all_goals
        simp only [Bool.not_true, Bool.not_false] at u1 u3
        go_enter Tryd.func20, Tryd.ntmps20
        go_wp2_with fail
        refine (within_any off (-86399) 86399 _).mono ?_
        rw [hw]
        rintro e w2 ⟨rfl, hq⟩
        clear hw
        have c0 : w2.cell? ⟨w.heap.size, 0, none⟩ = some (.string ⟨name.toArray⟩) := hq.cell (World.cell?_alloc_mark w _ _ _ 0)
        have c1 : w2.cell? ⟨w.heap.size, 1, none⟩ = some (.int .i64 off) := hq.cell (World.cell?_alloc_mark w _ _ _ 1)
        go_wp2_with fail
        go_ret
        exact ⟨rfl, b0.trans (hq.below _)⟩
  rw [HX.out]
  exact hcase _ rfl
end Go.Proofs.YtgcjhakhepgjlaaDoor

/-
  WALKS, the reference's CivilOk (printed by wip/py/gen_spec.py).
-/
namespace Go.Proofs.YtgcjhakhepgjlaaDoor
open Go.RowKit
set_option linter.unusedVariables false
set_option linter.unusedSimpArgs false
attribute [local go_sem] ByteArray.extract_mk get_mk ByteArray.toList_mk ByteArray.mk_append_mk take_drop_len

theorem drewN_below (B : Nat) (w : World) (n : Nat) : Below B w (w.drewN n) := (Qt.drewN (Qt.refl w) n).below B
set_option maxHeartbeats 2000000 in
theorem civilOk_any (y m d h mi s ns : Int) (name : List UInt8) (hl : name.length ≤ 140737488351230) (off : Int) (w : World) : Calls Tryd.prog 11 #[civilV y m d h mi s ns name off] w fun e w' => e = .returned (.bool (Fs.civilOk y m d h mi s ns name off)) ∧ Below w.heap.size w w' := by
  unfold civilV
  have b0 := ((Below.refl w.heap.size w).alloc (Nat.le_refl _) (Obj.cells #[.int .i64 y, .int .i64 m, .int .i64 d, .int .i64 h, .int .i64 mi, .int .i64 s, .int .i64 ns, .string ⟨name.toArray⟩, .int .i64 off] 27))
  generalize h0 : Fs.dateOk y m d = b0
  cases b0
  · have HX : Hid (Fs.civilOk y m d h mi s ns name off = false) := by show _ = _; simp [Fs.civilOk, h0]
    go_enter Tryd.func11, Tryd.ntmps11
    go_wp2_with fail
    refine (dateOk_any y m d _).mono ?_
    rw [h0]
    clear h0
    rintro e w2 ⟨rfl, n0, rfl⟩
    go_wp2_with fail
    go_ret
    exact ⟨ret_bool HX.out.symm, b0.trans (drewN_below _ _ _)⟩
  generalize h1 : Fs.within h 0 23 = b1
  cases b1
  · have HX : Hid (Fs.civilOk y m d h mi s ns name off = false) := by show _ = _; simp [Fs.civilOk, h0, h1]
    go_enter Tryd.func11, Tryd.ntmps11
    go_wp2_with fail
    refine (dateOk_any y m d _).mono ?_
    rw [h0]
    clear h0
    rintro e w2 ⟨rfl, n0, rfl⟩
    go_wp2_with fail
    refine (within_any h 0 23 _).mono ?_
    rw [h1]
    clear h1
    rintro e w2 ⟨rfl, n1, rfl⟩
    go_wp2_with fail
    go_ret
    exact ⟨ret_bool HX.out.symm, b0.trans (drewN_below _ _ _)⟩
  generalize h2 : Fs.within mi 0 59 = b2
  cases b2
  · have HX : Hid (Fs.civilOk y m d h mi s ns name off = false) := by show _ = _; simp [Fs.civilOk, h0, h1, h2]
    go_enter Tryd.func11, Tryd.ntmps11
    go_wp2_with fail
    refine (dateOk_any y m d _).mono ?_
    rw [h0]
    clear h0
    rintro e w2 ⟨rfl, n0, rfl⟩
    go_wp2_with fail
    refine (within_any h 0 23 _).mono ?_
    rw [h1]
    clear h1
    rintro e w2 ⟨rfl, n1, rfl⟩
    go_wp2_with fail
    refine (within_any mi 0 59 _).mono ?_
    rw [h2]
    clear h2
    rintro e w2 ⟨rfl, n2, rfl⟩
    go_wp2_with fail
    go_ret
    exact ⟨ret_bool HX.out.symm, b0.trans (drewN_below _ _ _)⟩
  generalize h3 : Fs.within s 0 59 = b3
  cases b3
  · have HX : Hid (Fs.civilOk y m d h mi s ns name off = false) := by show _ = _; simp [Fs.civilOk, h0, h1, h2, h3]
    go_enter Tryd.func11, Tryd.ntmps11
    go_wp2_with fail
    refine (dateOk_any y m d _).mono ?_
    rw [h0]
    clear h0
    rintro e w2 ⟨rfl, n0, rfl⟩
    go_wp2_with fail
    refine (within_any h 0 23 _).mono ?_
    rw [h1]
    clear h1
    rintro e w2 ⟨rfl, n1, rfl⟩
    go_wp2_with fail
    refine (within_any mi 0 59 _).mono ?_
    rw [h2]
    clear h2
    rintro e w2 ⟨rfl, n2, rfl⟩
    go_wp2_with fail
    refine (within_any s 0 59 _).mono ?_
    rw [h3]
    clear h3
    rintro e w2 ⟨rfl, n3, rfl⟩
    go_wp2_with fail
    go_ret
    exact ⟨ret_bool HX.out.symm, b0.trans (drewN_below _ _ _)⟩
  generalize h4 : Fs.within ns 0 999999999 = b4
  cases b4
  · have HX : Hid (Fs.civilOk y m d h mi s ns name off = false) := by show _ = _; simp [Fs.civilOk, h0, h1, h2, h3, h4]
    go_enter Tryd.func11, Tryd.ntmps11
    go_wp2_with fail
    refine (dateOk_any y m d _).mono ?_
    rw [h0]
    clear h0
    rintro e w2 ⟨rfl, n0, rfl⟩
    go_wp2_with fail
    refine (within_any h 0 23 _).mono ?_
    rw [h1]
    clear h1
    rintro e w2 ⟨rfl, n1, rfl⟩
    go_wp2_with fail
    refine (within_any mi 0 59 _).mono ?_
    rw [h2]
    clear h2
    rintro e w2 ⟨rfl, n2, rfl⟩
    go_wp2_with fail
    refine (within_any s 0 59 _).mono ?_
    rw [h3]
    clear h3
    rintro e w2 ⟨rfl, n3, rfl⟩
    go_wp2_with fail
    refine (within_any ns 0 999999999 _).mono ?_
    rw [h4]
    clear h4
    rintro e w2 ⟨rfl, n4, rfl⟩
    go_wp2_with fail
    go_ret
    exact ⟨ret_bool HX.out.symm, b0.trans (drewN_below _ _ _)⟩
  generalize h5 : Fs.zoneOk name off = b5
  cases b5
  · have HX : Hid (Fs.civilOk y m d h mi s ns name off = false) := by show _ = _; simp [Fs.civilOk, h0, h1, h2, h3, h4, h5]
    go_enter Tryd.func11, Tryd.ntmps11
    go_wp2_with fail
    refine (dateOk_any y m d _).mono ?_
    rw [h0]
    clear h0
    rintro e w2 ⟨rfl, n0, rfl⟩
    go_wp2_with fail
    refine (within_any h 0 23 _).mono ?_
    rw [h1]
    clear h1
    rintro e w2 ⟨rfl, n1, rfl⟩
    go_wp2_with fail
    refine (within_any mi 0 59 _).mono ?_
    rw [h2]
    clear h2
    rintro e w2 ⟨rfl, n2, rfl⟩
    go_wp2_with fail
    refine (within_any s 0 59 _).mono ?_
    rw [h3]
    clear h3
    rintro e w2 ⟨rfl, n3, rfl⟩
    go_wp2_with fail
    refine (within_any ns 0 999999999 _).mono ?_
    rw [h4]
    clear h4
    rintro e w2 ⟨rfl, n4, rfl⟩
    go_wp2_with fail
    refine (zoneOk_any name hl off _).mono ?_
    rw [h5]
    clear h5
    rintro e w2 ⟨rfl, hz⟩
    go_wp2_with fail
    go_ret
    exact ⟨ret_bool HX.out.symm, b0.trans ((drewN_below _ _ _).trans (hz.mono (by simp)))⟩
  have HX : Hid (Fs.civilOk y m d h mi s ns name off = true) := by show _ = _; simp [Fs.civilOk, h0, h1, h2, h3, h4, h5]
  go_enter Tryd.func11, Tryd.ntmps11
  go_wp2_with fail
  refine (dateOk_any y m d _).mono ?_
  rw [h0]
  clear h0
  rintro e w2 ⟨rfl, n0, rfl⟩
  go_wp2_with fail
  refine (within_any h 0 23 _).mono ?_
  rw [h1]
  clear h1
  rintro e w2 ⟨rfl, n1, rfl⟩
  go_wp2_with fail
  refine (within_any mi 0 59 _).mono ?_
  rw [h2]
  clear h2
  rintro e w2 ⟨rfl, n2, rfl⟩
  go_wp2_with fail
  refine (within_any s 0 59 _).mono ?_
  rw [h3]
  clear h3
  rintro e w2 ⟨rfl, n3, rfl⟩
  go_wp2_with fail
  refine (within_any ns 0 999999999 _).mono ?_
  rw [h4]
  clear h4
  rintro e w2 ⟨rfl, n4, rfl⟩
  go_wp2_with fail
  refine (zoneOk_any name hl off _).mono ?_
  rw [h5]
  clear h5
  rintro e w2 ⟨rfl, hz⟩
  go_wp2_with fail
  go_ret
  exact ⟨ret_bool HX.out.symm, b0.trans ((drewN_below _ _ _).trans (hz.mono (by simp)))⟩
/-- what CivilOk says -/
structure CivF (y m d h mi s ns : Int) (name : List UInt8) (off : Int) (Y M D Hh Mi S Ns : Nat) : Prop where
  ey : y = Y
  em : m = M
  ed : d = D
  eh : h = Hh
  emi : mi = Mi
  es : s = S
  ens : ns = Ns
  y9 : Y ≤ 9999
  date : Fs.Valid Y M D
  clock : Fs.VClock Hh Mi S Ns
  n0 : name ≠ []
  n1 : name.length ≤ 100
  o1 : -86399 ≤ off
  o2 : off ≤ 86399
  o3 : off = 0 ∨ off ≤ -60 ∨ 60 ≤ off
  utc : name = [85, 84, 67] → off = 0
theorem civF {y m d h mi s ns : Int} {name : List UInt8} {off : Int} (hk : Fs.civilOk y m d h mi s ns name off = true) : ∃ Y M D Hh Mi S Ns : Nat, CivF y m d h mi s ns name off Y M D Hh Mi S Ns := by
  simp only [Fs.civilOk, Fs.dateOk, Fs.zoneOk, Bool.and_eq_true, Fs.within_iff, decide_eq_true_eq, Bool.or_eq_true, beq_iff_eq, Bool.not_eq_true', bne_iff_ne, ne_eq] at hk
  obtain ⟨⟨⟨y1, y2⟩, ⟨m1, m2⟩, d1, d2⟩, ⟨h1, h2⟩, ⟨mi1, mi2⟩, ⟨s1, s2⟩, ⟨ns1, ns2⟩, n0, n1, ⟨o1, o2⟩, o3, o4⟩ := hk
  obtain ⟨Y, rfl⟩ : ∃ Y : Nat, y = (Y : Int) := ⟨y.toNat, by omega⟩
  obtain ⟨M, rfl⟩ : ∃ M : Nat, m = (M : Int) := ⟨m.toNat, by omega⟩
  obtain ⟨D, rfl⟩ : ∃ D : Nat, d = (D : Int) := ⟨d.toNat, by omega⟩
  obtain ⟨Hh, rfl⟩ : ∃ D : Nat, h = (D : Int) := ⟨h.toNat, by omega⟩
  obtain ⟨Mi, rfl⟩ : ∃ D : Nat, mi = (D : Int) := ⟨mi.toNat, by omega⟩
  obtain ⟨S, rfl⟩ : ∃ D : Nat, s = (D : Int) := ⟨s.toNat, by omega⟩
  obtain ⟨Ns, rfl⟩ : ∃ D : Nat, ns = (D : Int) := ⟨ns.toNat, by omega⟩
  rw [Int.toNat_natCast] at d2
  refine ⟨Y, M, D, Hh, Mi, S, Ns, rfl, rfl, rfl, rfl, rfl, rfl, rfl, by omega, ⟨by omega, by omega, by omega, by omega, by omega, by omega⟩, ⟨by omega, by omega, by omega, by omega⟩, ?_, n1, o1, o2, o3, ?_⟩
  · rintro rfl; simp at n0
  · rintro rfl
    rcases o4 with o4 | o4
    · exact absurd rfl o4
    · exact o4
end Go.Proofs.YtgcjhakhepgjlaaDoor

/-
  WALKS, the reference's names of months and days, halves of the day, marks of offsets.
-/
namespace Go.Proofs.YtgcjhakhepgjlaaDoor
open Go.RowKit
set_option linter.unusedVariables false
set_option linter.unusedSimpArgs false
attribute [local go_sem] ByteArray.extract_mk get_mk ByteArray.toList_mk ByteArray.mk_append_mk take_drop_len

end Go.Proofs.YtgcjhakhepgjlaaDoor

/-
  WALKS, the reference's digits (padded, Digits, Blank), YearDay, Weekday.
-/
namespace Go.Proofs.YtgcjhakhepgjlaaDoor
open Go.RowKit
set_option linter.unusedVariables false
set_option linter.unusedSimpArgs false
attribute [local go_sem] ByteArray.extract_mk get_mk ByteArray.toList_mk ByteArray.mk_append_mk take_drop_len

def boolNat : Value → Nat
  | .bool true => 1
  | _ => 0
def strLen : Value → Nat
  | .string b => b.size
  | _ => 0
theorem strLen_mk (l : List UInt8) : strLen (.string ⟨l.toArray⟩) = l.length := by simp [strLen, ByteArray.size]
theorem boolNat_t : boolNat (.bool true) = 1 := rfl
theorem boolNat_f : boolNat (.bool false) = 0 := rfl
theorem dig_zero : Fs.dig 0 = [48] := by rw [Fs.dig_one (by omega)]; rfl
theorem dig_step (M : Nat) : Fs.dig M = (if M / 10 = 0 then [] else Fs.dig (M / 10)) ++ [UInt8.ofNat (48 + M % 10)] := by
  by_cases h : M < 10
  · have e1 : M / 10 = 0 := by omega
    have e2 : M % 10 = M := by omega
    rw [Fs.dig_one h, e1, e2]
    rfl
  · have e1 : ¬ M / 10 = 0 := by omega
    rw [Fs.dig_more h, if_neg e1]
theorem pad_step {c : UInt8} {W : Nat} {O : List UInt8} (h : O.length < W) : Fs.pad c W (c :: O) = Fs.pad c W O := by
  unfold Fs.pad
  have : W - O.length = (W - (c :: O).length) + 1 := by simp; omega
  rw [this, List.replicate_succ', List.append_assoc]
  rfl
theorem pad_done {c : UInt8} {W : Nat} {O : List UInt8} (h : ¬ O.length < W) : Fs.pad c W O = O := by
  unfold Fs.pad
  have : W - O.length = 0 := by omega
  rw [this]
  rfl
/-- the first loop's state: the digits O of N stand, M is left -/
def PD (N M : Nat) (O : List UInt8) (b : Bool) : Prop := (b = true ∧ M = N ∧ O = []) ∨ (b = false ∧ Fs.dig N = (if M = 0 then [] else Fs.dig M) ++ O)
theorem PD.step {N M : Nat} {O : List UInt8} {b : Bool} (h : PD N M O b) (hb : b = false → 0 < M) : PD N (M / 10) (UInt8.ofNat (48 + M % 10) :: O) false := by
  refine .inr ⟨rfl, ?_⟩
  have hs := dig_step M
  rcases h with ⟨rfl, rfl, rfl⟩ | ⟨rfl, h⟩
  · rw [hs]
  · have hM := hb rfl
    rw [h, if_neg (by omega), hs, List.append_assoc]
    rfl
theorem PD.last {N : Nat} {O : List UInt8} (h : PD N 0 O false) : Fs.dig N = O := by
  rcases h with ⟨h, -, -⟩ | ⟨-, h⟩
  · cases h
  · simpa using h
theorem dig_bd {N : Nat} (hN : N ≤ 1000000000) : (Fs.dig N).length ≤ 10 := Fs.dig_lt 9 N (by omega)
theorem PD.len {N M : Nat} {O : List UInt8} {b : Bool} (hN : N ≤ 1000000000) (h : PD N M O b) : O.length ≤ 10 := by
  have := dig_bd hN
  rcases h with ⟨rfl, rfl, rfl⟩ | ⟨rfl, h⟩
  · simp
  · rw [h, List.length_append] at this
    omega

set_option maxRecDepth 100000 in
set_option maxHeartbeats 4000000 in
theorem padded_any (N W : Nat) (hN : N ≤ 1000000000) (hW : W ≤ 9) (c : UInt8) (w : World) :
    Calls Tryd.prog 15 #[.int .i64 N, .int .i64 W, .string ⟨[c].toArray⟩] w fun e w' => e = .returned (.string ⟨(Fs.pad c W (Fs.dig N)).toArray⟩) ∧ Below w.heap.size w w' := by
  go_enter Tryd.func15, Tryd.ntmps15
  go_wp2_with fail
  go_loopw [0, 7, 8] (fun n o f wr => ∃ (M : Nat) (O : List UInt8) (b : Bool), n = .int .i64 (M : Nat) ∧ o = .string ⟨O.toArray⟩ ∧ f = .bool b ∧ M ≤ 1000000000 ∧ Hid (PD N M O b) ∧ Below w.heap.size w wr)
    (fun n _ f _ => (intOf n).toNat + boolNat f)
  case atStart => exact ⟨N, [], true, rfl, rfl, rfl, hN, .inl ⟨rfl, rfl, rfl⟩, Below.refl _ _⟩
  case round =>
    obtain ⟨M, O, b, rfl, rfl, rfl, hM, HP, hb⟩ := hrel
    have hO := PD.len hN HP.out
    obtain ⟨d, hd⟩ : ∃ d : UInt8, d = UInt8.ofNat (48 + M % 10) := ⟨_, rfl⟩
    have hdn : (48 : Int) + (M : Int) % 10 = (d.toNat : Int) := by
      rw [hd, UInt8.toNat_ofNat']
      omega
    have hdl := byte_lt d
    have kc := fun (w0 : World) (cap : Nat) => conv_one w0 (0, 0) d cap
    have hsz := hb.size
    cases b
    · by_cases h0 : (0 : Int) < M
      · have HP2 : Hid (PD N (M / 10) (d :: O) false) := by show PD _ _ _ _; rw [hd]; exact PD.step HP.out (fun _ => by omega)
        have hb2 := hb.trans ((Below.refl w.heap.size wr).alloc hsz (Obj.cells #[.int .u8 (d.toNat : Int)] 5))
        clear hd HP
        go_wp2_with fail
        go_roundw
        case rel => exact ⟨M / 10, d :: O, false, by go_num, by simp, rfl, by omega, HP2, hb2⟩
        case measure => simp [intOf, boolNat_f]; omega
      · obtain rfl : M = 0 := by omega
        have HD := hide (PD.last HP.out)
        clear hd hdn kc HP h0 hdl
        go_wp2_with fail
        go_loopw [7] (fun o wr2 => ∃ O2 : List UInt8, o = .string ⟨O2.toArray⟩ ∧ Hid (Fs.pad c W O2 = Fs.pad c W O) ∧ O2.length ≤ 20 ∧ Below w.heap.size w wr2)
          (fun o _ => W - strLen o)
        case atStart => exact ⟨O, rfl, rfl, by omega, hb⟩
        case round =>
          obtain ⟨O2, rfl, HO2, hO2, hb2⟩ := hrel
          by_cases hlt : (O2.length : Int) < W
          · have HO3 : Hid (Fs.pad c W (c :: O2) = Fs.pad c W O) := by show _ = _; rw [pad_step (by omega)]; exact HO2.out
            go_wp2_with fail
            go_roundw
            case rel => exact ⟨c :: O2, by simp, HO3, by simp; omega, hb2⟩
            case measure => simp [strLen_mk]; omega
          · have HX : Hid (Fs.pad c W (Fs.dig N) = O2) := by show _ = _; rw [HD.out, ← HO2.out]; exact pad_done (by omega)
            go_wp2_with fail
            go_ret
            exact ⟨ret_str HX.out.symm, hb2⟩
    · have HP2 : Hid (PD N (M / 10) (d :: O) false) := by show PD _ _ _ _; rw [hd]; exact PD.step HP.out (fun h => by cases h)
      have hb2 := hb.trans ((Below.refl w.heap.size wr).alloc hsz (Obj.cells #[.int .u8 (d.toNat : Int)] 5))
      clear hd HP
      go_wp2_with fail
      go_roundw
      case rel => exact ⟨M / 10, d :: O, false, by go_num, by simp, rfl, by omega, HP2, hb2⟩
      case measure => simp [intOf, boolNat_f, boolNat_t]; omega
theorem Digits_any (N : Nat) (W : Nat) (hN : N ≤ 1000000000) (hW : W ≤ 9) (w : World) :
    Calls Tryd.prog 7 #[.int .i64 N, .int .i64 W] w fun e w' => e = .returned (.string ⟨(Fs.dg W N).toArray⟩) ∧ Below w.heap.size w w' := by
  go_enter Tryd.func7, Tryd.ntmps7
  go_wp2_with fail
  refine (padded_any N W hN hW 48 _).mono ?_
  rintro e w1 ⟨rfl, hq⟩
  go_wp2_with fail
  go_ret
  exact ⟨rfl, hq⟩
/-- a told civil, by its cells -/
structure CCell (w : World) (b : Nat) (y m d h mi s ns : Int) (name : List UInt8) (off : Int) : Prop where
  c0 : w.cell? ⟨b, 0, none⟩ = some (.int .i64 y)
  c1 : w.cell? ⟨b, 1, none⟩ = some (.int .i64 m)
  c2 : w.cell? ⟨b, 2, none⟩ = some (.int .i64 d)
  c3 : w.cell? ⟨b, 3, none⟩ = some (.int .i64 h)
  c4 : w.cell? ⟨b, 4, none⟩ = some (.int .i64 mi)
  c5 : w.cell? ⟨b, 5, none⟩ = some (.int .i64 s)
  c6 : w.cell? ⟨b, 6, none⟩ = some (.int .i64 ns)
  c7 : w.cell? ⟨b, 7, none⟩ = some (.string ⟨name.toArray⟩)
  c8 : w.cell? ⟨b, 8, none⟩ = some (.int .i64 off)
theorem CCell.below {w w' : World} {b : Nat} {y m d h mi s ns : Int} {name : List UInt8} {off : Int} (H : CCell w b y m d h mi s ns name off) (hb : Below w.heap.size w w') : CCell w' b y m d h mi s ns name off :=
  ⟨Below.cellk hb H.c0, Below.cellk hb H.c1, Below.cellk hb H.c2, Below.cellk hb H.c3, Below.cellk hb H.c4, Below.cellk hb H.c5, Below.cellk hb H.c6, Below.cellk hb H.c7, Below.cellk hb H.c8⟩
theorem CCell.new (w : World) (y m d h mi s ns : Int) (name : List UInt8) (off : Int) : CCell (w.alloc (.cells #[.int .i64 y, .int .i64 m, .int .i64 d, .int .i64 h, .int .i64 mi, .int .i64 s, .int .i64 ns, .string ⟨name.toArray⟩, .int .i64 off] 27)) w.heap.size y m d h mi s ns name off := by
  refine ⟨?_, ?_, ?_, ?_, ?_, ?_, ?_, ?_, ?_⟩ <;> go_simp
namespace Fs
/-- the days of the months ahead of one -/
def sumDays (y : Int) : Nat → Nat
  | 0 => 0
  | m + 1 => sumDays y m + monthLen y (m + 1)
theorem yearDay_sum {y : Int} {m d : Nat} (h : Valid y m d) : yearDay y m d = d + sumDays y (m - 1) := by
  rcases h.m12 with rfl | rfl | rfl | rfl | rfl | rfl | rfl | rfl | rfl | rfl | rfl | rfl <;> (cases hl : leap y <;> simp [yearDay, cum, sumDays, monthLen, hl] <;> omega)
theorem sumDays_le (y : Int) : ∀ m, sumDays y m ≤ 31 * m
  | 0 => Nat.le_refl _
  | m + 1 => by
    have := sumDays_le y m
    have h : monthLen y (m + 1) ≤ 31 := by unfold monthLen; split <;> (try split) <;> omega
    simp only [sumDays]
    omega
end Fs
end Go.Proofs.YtgcjhakhepgjlaaDoor

/-
  WALKS, the reference's OffsetText (printed by wip/py/gen_off.py).
-/
namespace Go.Proofs.YtgcjhakhepgjlaaDoor
open Go.RowKit
set_option linter.unusedVariables false
set_option linter.unusedSimpArgs false
attribute [local go_sem] ByteArray.extract_mk get_mk ByteArray.toList_mk ByteArray.mk_append_mk take_drop_len

theorem dig_at (n : Nat) (x : Int) (hx : x = (n : Int)) (h : n ≤ 1000000000) (W : Nat) (hW : W ≤ 9) (w : World) : Calls Tryd.prog 7 #[.int .i64 x, .int .i64 W] w fun e w' => e = .returned (.string ⟨(Fs.dg W n).toArray⟩) ∧ Below w.heap.size w w' := by
  subst hx
  exact Digits_any n W h hW w
end Go.Proofs.YtgcjhakhepgjlaaDoor
