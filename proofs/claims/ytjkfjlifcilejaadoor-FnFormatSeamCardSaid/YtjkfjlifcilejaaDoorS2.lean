/-
  WALKS, the reference's Power, Trimmed, Fraction, zoneText (printed by wip/py/gen_written.py).
-/
import Derived.Test.YtjkfjlifcilejaaDoorU5
import Derived.Test.YtjkfjlifcilejaaDoorWt
import Derived.Test.YtjkfjlifcilejaaDoorWz
namespace Go.Proofs.YtjkfjlifcilejaaDoor
open Go.RowKit
set_option linter.unusedVariables false
set_option linter.unusedSimpArgs false
attribute [local go_sem] ByteArray.extract_mk get_mk ByteArray.toList_mk ByteArray.mk_append_mk take_drop_len

theorem pow_pos10 (m : Nat) : 1 ≤ 10 ^ m := Nat.pos_of_ne_zero (by simp)
theorem Power_any (n : Nat) (hn : n ≤ 9) (w : World) : Calls Tryd.prog 47 #[.int .i64 (n : Nat)] w fun e w' => e = .returned (.int .i64 ((10 ^ n : Nat) : Int)) ∧ Qt w w' := by
  have h9 : 10 ^ n ≤ 1000000000 := Nat.le_trans (Nat.pow_le_pow_right (by omega) hn) (by decide)
  obtain ⟨G, hG⟩ : ∃ G, 10 ^ n = G := ⟨_, rfl⟩
  rw [hG] at h9 ⊢
  go_enter Tryd.func47, Tryd.ntmps47
  go_wp2_with fail
  go_loopw [0, 3] (fun a b wr => ∃ m P : Nat, a = .int .i64 (m : Nat) ∧ b = .int .i64 (P : Nat) ∧ m ≤ 9 ∧ Hid (P * 10 ^ m = G) ∧ Qt w wr) (fun a _ _ => (intOf a).toNat)
  case atStart => exact ⟨n, 1, rfl, rfl, hn, by show _ = _; omega, Qt.refl _⟩
  case round =>
    obtain ⟨m, P, rfl, rfl, hm9, HP, hq⟩ := hrel
    by_cases h0 : (0 : Int) < m
    · obtain ⟨k, rfl⟩ : ∃ k, m = k + 1 := ⟨m - 1, by omega⟩
      have HP2 : Hid (P * 10 * 10 ^ k = G) := by show _ = _; rw [← HP.out, Nat.pow_succ, Nat.mul_assoc, Nat.mul_comm 10]
      have hle : P * 10 ≤ 1000000000 := by
        have h1 := HP2.out
        have h2 := Nat.le_mul_of_pos_right (P * 10) (pow_pos10 k)
        omega
      clear HP
      rw [show (((k + 1 : Nat) : Int)) = (k : Int) + 1 by omega] at h0 ⊢
      go_wp2_with fail
      go_roundw
      case rel => exact ⟨k, P * 10, by go_num, by go_num, by omega, HP2, hq⟩
      case measure => first | (simp [intOf]; done) | (simp [intOf]; omega)
    · obtain rfl : m = 0 := by omega
      have HR : Hid (P = G) := by show _ = _; have := HP.out; simpa using this
      clear HP h0
      go_wp2_with fail
      go_ret
      exact ⟨ret_int (by rw [HR.out]), hq⟩
theorem div_pow {nano : Nat} (hn : nano ≤ 999999999) (G : Nat) (hG : 0 < G) : Int.tdiv (nano : Int) (G : Int) = ((nano / G : Nat) : Int) ∧ (nano : Int) / (G : Int) = ((nano / G : Nat) : Int) := by
  refine ⟨?_, by simp⟩
  rw [Int.tdiv_eq_ediv_of_nonneg (by omega)]
  simp
set_option maxHeartbeats 2000000 in
theorem Trimmed_any (nano d : Nat) (hn : nano ≤ 999999999) (h1 : 1 ≤ d) (h9 : d ≤ 9) (c : Bool) (m : UInt8) (hm : Fs.markB c = [m]) (w : World) :
    Calls Tryd.prog 25 #[.int .i64 (nano : Nat), .int .i64 (d : Nat), .bool c] w fun e w' => e = .returned (.string ⟨(Fs.nanoT true d m nano).toArray⟩) ∧ Below w.heap.size w w' := by
  rw [Fs.trimmed_eq hn h1 h9]
  have hc := Fs.cut_lt hn h9
  obtain ⟨G, hG⟩ : ∃ G, 10 ^ (9 - d) = G := ⟨_, rfl⟩
  have hP := fun w => Power_any (9 - d) (by omega) w
  rw [hG] at hc hP ⊢
  have hG0 : 0 < G := by rw [← hG]; exact pow_pos10 _
  obtain ⟨q1, q2⟩ := div_pow hn G hG0
  have hq9 : nano / G ≤ 999999999 := Nat.le_trans (Nat.div_le_self _ _) hn
  generalize nano / G = N at hc q1 q2 hq9 ⊢
  rw [show (((9 - d : Nat)) : Int) = 9 - (d : Int) by omega] at hP
  have HP := hide hP
  have HC := hide hc
  have HM := hide (fun w => mark_any c w)
  rw [hm] at HM
  have hGn : ¬ (G : Int) = 0 := by omega
  have hGi : (0 : Int) < (G : Int) := by omega
  clear hG hP hc hm
  go_enter Tryd.func25, Tryd.ntmps25
  go_wp2_with fail
  refine (HP.out _).mono ?_
  rintro e w1 ⟨rfl, hq⟩
  go_wp2_with fail
  go_loopw [1, 7] (fun a b wr => ∃ e n : Nat, a = .int .i64 (e : Nat) ∧ b = .int .i64 (n : Nat) ∧ e ≤ 9 ∧ n ≤ 999999999 ∧ Hid (n < 10 ^ e ∧ Fs.trimT m d N = Fs.trimT m e n) ∧ Qt w wr) (fun a _ _ => (intOf a).toNat)
  case atStart => exact ⟨d, N, rfl, rfl, h9, hq9, ⟨HC.out, rfl⟩, hq⟩
  case round =>
    clear hq HC HP q1 q2 hGn hGi hG0
    obtain ⟨e, n, rfl, rfl, he, hn2, HH, hq⟩ := hrel
    by_cases h0 : (0 : Int) < e
    · obtain ⟨k, rfl⟩ : ∃ k, e = k + 1 := ⟨e - 1, by omega⟩
      rw [show (((k + 1 : Nat) : Int)) = (k : Int) + 1 by omega] at h0 ⊢
      by_cases hz : n % 10 = 0
      · have e1 : (((n : Int) % 10) == 0) = true := by rw [beq_iff_eq]; omega
        have HH2 : Hid (n / 10 < 10 ^ k ∧ Fs.trimT m d N = Fs.trimT m k (n / 10)) := by
          obtain ⟨h1, h2⟩ := HH.out
          refine ⟨by rw [Nat.pow_succ] at h1; omega, h2.trans ?_⟩
          rw [Fs.trimT, if_pos hz]
        clear HH hz
        go_wp2_with fail
        go_roundw
        case rel => exact ⟨k, n / 10, by go_num, by go_num, by omega, by omega, HH2, hq⟩
        case measure => first | (simp [intOf]; done) | (simp [intOf]; omega)
      · have e1 : (((n : Int) % 10) == 0) = false := by rw [beq_eq_false_iff_ne]; omega
        have HR : Hid (Fs.trimT m d N = m :: Fs.dg (k + 1) n) := by
          obtain ⟨h1, h2⟩ := HH.out
          show _ = _
          rw [h2, Fs.trimT, if_neg hz, Fs.trim_dg (by omega) h1]
        have hl : (Fs.dg (k + 1) n).length ≤ 9 := Fs.dg_le (by omega) (by omega)
        have hD := fun w => Digits_any n (k + 1) (by omega) (by omega) w
        rw [show (((k + 1 : Nat) : Int)) = (k : Int) + 1 by omega] at hD
        generalize Fs.dg (k + 1) n = T at HR hl hD
        have HD := hide hD
        have e2 : (((k : Int) + 1) == 0) = false := by rw [beq_eq_false_iff_ne]; omega
        clear HH hz hD
        go_wp2_with fail
        refine (HM.out _).mono ?_
        rintro e w3 ⟨rfl, hq3⟩
        go_wp2_with fail
        refine (HD.out _).mono ?_
        rintro e w4 ⟨rfl, hq4⟩
        have hb := ((hq.trans hq3).below w.heap.size).trans (hq4.mono (by rw [(hq.trans hq3).size]; exact Nat.le_refl _))
        clear hq hq3 hq4
        go_wp2_with fail
        go_ret
        exact ⟨ret_str (by rw [HR.out]), hb⟩
    · obtain rfl : e = 0 := by omega
      have HR : Hid (Fs.trimT m d N = []) := by show _ = _; exact HH.out.2
      clear HH h0
      go_wp2_with fail
      go_ret
      exact ⟨ret_str HR.out.symm, hq.below _⟩
set_option maxHeartbeats 2000000 in
theorem Fraction_any (nano d : Nat) (hn : nano ≤ 999999999) (h1 : 1 ≤ d) (h9 : d ≤ 9) (c : Bool) (m : UInt8) (hm : Fs.markB c = [m]) (w : World) :
    Calls Tryd.prog 66 #[.int .i64 (nano : Nat), .int .i64 (d : Nat), .bool c] w fun e w' => e = .returned (.string ⟨(Fs.nanoT false d m nano).toArray⟩) ∧ Below w.heap.size w w' := by
  rw [Fs.fraction_eq hn h1 h9]
  obtain ⟨G, hG⟩ : ∃ G, 10 ^ (9 - d) = G := ⟨_, rfl⟩
  have hP := fun w => Power_any (9 - d) (by omega) w
  rw [hG] at hP ⊢
  have hG0 : 0 < G := by rw [← hG]; exact pow_pos10 _
  obtain ⟨q1, q2⟩ := div_pow hn G hG0
  have hq9 : nano / G ≤ 999999999 := Nat.le_trans (Nat.div_le_self _ _) hn
  generalize nano / G = N at q1 q2 hq9 ⊢
  rw [show (((9 - d : Nat)) : Int) = 9 - (d : Int) by omega] at hP
  have HP := hide hP
  have HM := hide (fun w => mark_any c w)
  rw [hm] at HM
  have hGn : ¬ (G : Int) = 0 := by omega
  have hGi : (0 : Int) < (G : Int) := by omega
  have hl : (Fs.dg d N).length ≤ 9 := Fs.dg_le (by omega) (by omega)
  have HD := hide (fun w => Digits_any N d (by omega) (by omega) w)
  generalize Fs.dg d N = T at hl HD ⊢
  clear hG hP hm
  go_enter Tryd.func66, Tryd.ntmps66
  go_wp2_with fail
  refine (HM.out _).mono ?_
  rintro e w3 ⟨rfl, hq3⟩
  go_wp2_with fail
  refine (HP.out _).mono ?_
  rintro e w1 ⟨rfl, hq⟩
  go_wp2_with fail
  refine (HD.out _).mono ?_
  rintro e w4 ⟨rfl, hq4⟩
  have hb := ((hq3.trans hq).below w.heap.size).trans (hq4.mono (by rw [(hq3.trans hq).size]; exact Nat.le_refl _))
  clear hq hq3 hq4
  go_wp2_with fail
  go_ret
  exact ⟨rfl, hb⟩
theorem zoneText_22 (off : Int) (o1 : -86399 ≤ off) (o2 : off ≤ 86399) (w : World) : Calls Tryd.prog 67 #[.int .i64 22, .int .i64 off] w fun e w' => e = .returned (.string ⟨(Fs.offs off true false false).toArray⟩) ∧ Below w.heap.size w w' := by
  have HO := hide (fun w => OffsetText_any off o1 o2 true false false (by decide) w)
  generalize Fs.offs off true false false = T at HO ⊢
  go_enter Tryd.func67, Tryd.ntmps67
  go_wp2_with fail
  refine (HO.out _).mono ?_
  rintro e w1 ⟨rfl, hq⟩
  go_wp2_with fail
  go_ret
  exact ⟨rfl, hq⟩
theorem zoneText_23 (off : Int) (o1 : -86399 ≤ off) (o2 : off ≤ 86399) (w : World) : Calls Tryd.prog 67 #[.int .i64 23, .int .i64 off] w fun e w' => e = .returned (.string ⟨(Fs.offs off true false true).toArray⟩) ∧ Below w.heap.size w w' := by
  have HO := hide (fun w => OffsetText_any off o1 o2 true false true (by decide) w)
  generalize Fs.offs off true false true = T at HO ⊢
  go_enter Tryd.func67, Tryd.ntmps67
  go_wp2_with fail
  refine (HO.out _).mono ?_
  rintro e w1 ⟨rfl, hq⟩
  go_wp2_with fail
  go_ret
  exact ⟨rfl, hq⟩
theorem zoneText_24 (off : Int) (o1 : -86399 ≤ off) (o2 : off ≤ 86399) (w : World) : Calls Tryd.prog 67 #[.int .i64 24, .int .i64 off] w fun e w' => e = .returned (.string ⟨(Fs.offs off false false false).toArray⟩) ∧ Below w.heap.size w w' := by
  have HO := hide (fun w => OffsetText_any off o1 o2 false false false (by decide) w)
  generalize Fs.offs off false false false = T at HO ⊢
  go_enter Tryd.func67, Tryd.ntmps67
  go_wp2_with fail
  refine (HO.out _).mono ?_
  rintro e w1 ⟨rfl, hq⟩
  go_wp2_with fail
  go_ret
  exact ⟨rfl, hq⟩
theorem zoneText_25 (off : Int) (o1 : -86399 ≤ off) (o2 : off ≤ 86399) (w : World) : Calls Tryd.prog 67 #[.int .i64 25, .int .i64 off] w fun e w' => e = .returned (.string ⟨(Fs.offs off true true false).toArray⟩) ∧ Below w.heap.size w w' := by
  have HO := hide (fun w => OffsetText_any off o1 o2 true true false (by decide) w)
  generalize Fs.offs off true true false = T at HO ⊢
  go_enter Tryd.func67, Tryd.ntmps67
  go_wp2_with fail
  refine (HO.out _).mono ?_
  rintro e w1 ⟨rfl, hq⟩
  go_wp2_with fail
  go_ret
  exact ⟨rfl, hq⟩
theorem zoneText_26 (off : Int) (o1 : -86399 ≤ off) (o2 : off ≤ 86399) (w : World) : Calls Tryd.prog 67 #[.int .i64 26, .int .i64 off] w fun e w' => e = .returned (.string ⟨(Fs.offs off true true true).toArray⟩) ∧ Below w.heap.size w w' := by
  have HO := hide (fun w => OffsetText_any off o1 o2 true true true (by decide) w)
  generalize Fs.offs off true true true = T at HO ⊢
  go_enter Tryd.func67, Tryd.ntmps67
  go_wp2_with fail
  refine (HO.out _).mono ?_
  rintro e w1 ⟨rfl, hq⟩
  go_wp2_with fail
  go_ret
  exact ⟨rfl, hq⟩
theorem zoneText_27 (off : Int) (o1 : -86399 ≤ off) (o2 : off ≤ 86399) (w : World) : Calls Tryd.prog 67 #[.int .i64 27, .int .i64 off] w fun e w' => e = .returned (.string ⟨(Fs.offs off true false false).toArray⟩) ∧ Below w.heap.size w w' := by
  have HO := hide (fun w => OffsetText_any off o1 o2 true false false (by decide) w)
  generalize Fs.offs off true false false = T at HO ⊢
  go_enter Tryd.func67, Tryd.ntmps67
  go_wp2_with fail
  refine (HO.out _).mono ?_
  rintro e w1 ⟨rfl, hq⟩
  go_wp2_with fail
  go_ret
  exact ⟨rfl, hq⟩
theorem zoneText_28 (off : Int) (o1 : -86399 ≤ off) (o2 : off ≤ 86399) (w : World) : Calls Tryd.prog 67 #[.int .i64 28, .int .i64 off] w fun e w' => e = .returned (.string ⟨(Fs.offs off true false true).toArray⟩) ∧ Below w.heap.size w w' := by
  have HO := hide (fun w => OffsetText_any off o1 o2 true false true (by decide) w)
  generalize Fs.offs off true false true = T at HO ⊢
  go_enter Tryd.func67, Tryd.ntmps67
  go_wp2_with fail
  refine (HO.out _).mono ?_
  rintro e w1 ⟨rfl, hq⟩
  go_wp2_with fail
  go_ret
  exact ⟨rfl, hq⟩
theorem zoneText_29 (off : Int) (o1 : -86399 ≤ off) (o2 : off ≤ 86399) (w : World) : Calls Tryd.prog 67 #[.int .i64 29, .int .i64 off] w fun e w' => e = .returned (.string ⟨(Fs.offs off false false false).toArray⟩) ∧ Below w.heap.size w w' := by
  have HO := hide (fun w => OffsetText_any off o1 o2 false false false (by decide) w)
  generalize Fs.offs off false false false = T at HO ⊢
  go_enter Tryd.func67, Tryd.ntmps67
  go_wp2_with fail
  refine (HO.out _).mono ?_
  rintro e w1 ⟨rfl, hq⟩
  go_wp2_with fail
  go_ret
  exact ⟨rfl, hq⟩
theorem zoneText_30 (off : Int) (o1 : -86399 ≤ off) (o2 : off ≤ 86399) (w : World) : Calls Tryd.prog 67 #[.int .i64 30, .int .i64 off] w fun e w' => e = .returned (.string ⟨(Fs.offs off true true false).toArray⟩) ∧ Below w.heap.size w w' := by
  have HO := hide (fun w => OffsetText_any off o1 o2 true true false (by decide) w)
  generalize Fs.offs off true true false = T at HO ⊢
  go_enter Tryd.func67, Tryd.ntmps67
  go_wp2_with fail
  refine (HO.out _).mono ?_
  rintro e w1 ⟨rfl, hq⟩
  go_wp2_with fail
  go_ret
  exact ⟨rfl, hq⟩
theorem zoneText_31 (off : Int) (o1 : -86399 ≤ off) (o2 : off ≤ 86399) (w : World) : Calls Tryd.prog 67 #[.int .i64 31, .int .i64 off] w fun e w' => e = .returned (.string ⟨(Fs.offs off true true true).toArray⟩) ∧ Below w.heap.size w w' := by
  have HO := hide (fun w => OffsetText_any off o1 o2 true true true (by decide) w)
  generalize Fs.offs off true true true = T at HO ⊢
  go_enter Tryd.func67, Tryd.ntmps67
  go_wp2_with fail
  refine (HO.out _).mono ?_
  rintro e w1 ⟨rfl, hq⟩
  go_wp2_with fail
  go_ret
  exact ⟨rfl, hq⟩
end Go.Proofs.YtjkfjlifcilejaaDoor

/-
  WALKS, the reference's written, each kind (printed by wip/py/gen_written.py).
-/
namespace Go.Proofs.YtjkfjlifcilejaaDoor
open Go.RowKit
set_option linter.unusedVariables false
set_option linter.unusedSimpArgs false
attribute [local go_sem] ByteArray.extract_mk get_mk ByteArray.toList_mk ByteArray.mk_append_mk take_drop_len

set_option maxRecDepth 100000 in
set_option maxHeartbeats 4000000 in
theorem written_1 {name : List UInt8} {off : Int} {Y M D Hh Mi S Ns : Nat} (CF : CivF Y M D Hh Mi S Ns name off Y M D Hh Mi S Ns) (T : List UInt8) (N : Int) (C : Bool) (w : World) :
    Calls Tryd.prog 52 #[.agg #[.int .i64 1, .string ⟨T.toArray⟩, .int .i64 N, .bool C], civilV (Y : Int) (M : Int) (D : Int) (Hh : Int) (Mi : Int) (S : Int) (Ns : Int) name off] w fun e w' => e = .returned (.string ⟨(Fs.wr (tmOf Y M D Hh Mi S Ns name off) ⟨1, T, N, C⟩).toArray⟩) ∧ Below w.heap.size w w' := by
  have y9 := CF.y9
  have d31 := CF.date.d31
  have m1 := CF.date.m1
  have m2 := CF.date.m2
  obtain ⟨h23, mi59, s59, ns9⟩ := CF.clock
  have o1 := CF.o1
  have o2 := CF.o2
  have hyd := Fs.yearDay_le CF.date
  have hwd : Fs.wday (Y : Int) M D ≤ 6 := by unfold Fs.wday; omega
  have h12 : Fs.hr12 Hh ≤ 12 := by unfold Fs.hr12; split <;> omega
  have hmn := monthName_3 m1 m2
  have hdn := dayName_3 hwd
  have HE : Fs.wr (tmOf Y M D Hh Mi S Ns name off) ⟨1, T, N, C⟩ = Fs.dg 4 Y := by
    show Fs.wr _ _ = _
    rfl
  rw [HE]
  have H0 := hide (fun w => Digits_any Y 4 (by omega) (by omega) w)
  clear HE CF
  have b0 := ((Below.refl w.heap.size w).alloc (Nat.le_refl _) (Obj.cells #[.int .i64 1, .string ⟨T.toArray⟩, .int .i64 N, .bool C] 34)).alloc (by simp) (Obj.cells #[.int .i64 (Y : Int), .int .i64 (M : Int), .int .i64 (D : Int), .int .i64 (Hh : Int), .int .i64 (Mi : Int), .int .i64 (S : Int), .int .i64 (Ns : Int), .string ⟨name.toArray⟩, .int .i64 off] 25)
  unfold civilV at *
  go_enter Tryd.func52, Tryd.ntmps52
  go_wp2_with fail
  refine (H0.out _).mono ?_
  rintro e w1 ⟨rfl, hq1⟩
  have b1 := b0.trans (hq1.mono (by simp; omega))
  clear hq1
  go_wp2_with fail
  go_ret
  exact ⟨rfl, b1⟩
set_option maxRecDepth 100000 in
set_option maxHeartbeats 4000000 in
theorem written_2 {name : List UInt8} {off : Int} {Y M D Hh Mi S Ns : Nat} (CF : CivF Y M D Hh Mi S Ns name off Y M D Hh Mi S Ns) (T : List UInt8) (N : Int) (C : Bool) (w : World) :
    Calls Tryd.prog 52 #[.agg #[.int .i64 2, .string ⟨T.toArray⟩, .int .i64 N, .bool C], civilV (Y : Int) (M : Int) (D : Int) (Hh : Int) (Mi : Int) (S : Int) (Ns : Int) name off] w fun e w' => e = .returned (.string ⟨(Fs.wr (tmOf Y M D Hh Mi S Ns name off) ⟨2, T, N, C⟩).toArray⟩) ∧ Below w.heap.size w w' := by
  have y9 := CF.y9
  have d31 := CF.date.d31
  have m1 := CF.date.m1
  have m2 := CF.date.m2
  obtain ⟨h23, mi59, s59, ns9⟩ := CF.clock
  have o1 := CF.o1
  have o2 := CF.o2
  have hyd := Fs.yearDay_le CF.date
  have hwd : Fs.wday (Y : Int) M D ≤ 6 := by unfold Fs.wday; omega
  have h12 : Fs.hr12 Hh ≤ 12 := by unfold Fs.hr12; split <;> omega
  have hmn := monthName_3 m1 m2
  have hdn := dayName_3 hwd
  have HE : Fs.wr (tmOf Y M D Hh Mi S Ns name off) ⟨2, T, N, C⟩ = Fs.dg 2 (Y % 100) := by
    show Fs.wr _ _ = _
    rfl
  rw [HE]
  have H0 := hide (fun w => dig_at (Y % 100) ((Y : Int) % 100) (by omega) (by omega) 2 (by omega) w)
  clear HE CF
  have b0 := ((Below.refl w.heap.size w).alloc (Nat.le_refl _) (Obj.cells #[.int .i64 2, .string ⟨T.toArray⟩, .int .i64 N, .bool C] 34)).alloc (by simp) (Obj.cells #[.int .i64 (Y : Int), .int .i64 (M : Int), .int .i64 (D : Int), .int .i64 (Hh : Int), .int .i64 (Mi : Int), .int .i64 (S : Int), .int .i64 (Ns : Int), .string ⟨name.toArray⟩, .int .i64 off] 25)
  unfold civilV at *
  go_enter Tryd.func52, Tryd.ntmps52
  go_wp2_with fail
  refine (H0.out _).mono ?_
  rintro e w1 ⟨rfl, hq1⟩
  have b1 := b0.trans (hq1.mono (by simp; omega))
  clear hq1
  go_wp2_with fail
  go_ret
  exact ⟨rfl, b1⟩
set_option maxRecDepth 100000 in
set_option maxHeartbeats 4000000 in
theorem written_3 {name : List UInt8} {off : Int} {Y M D Hh Mi S Ns : Nat} (CF : CivF Y M D Hh Mi S Ns name off Y M D Hh Mi S Ns) (T : List UInt8) (N : Int) (C : Bool) (w : World) :
    Calls Tryd.prog 52 #[.agg #[.int .i64 3, .string ⟨T.toArray⟩, .int .i64 N, .bool C], civilV (Y : Int) (M : Int) (D : Int) (Hh : Int) (Mi : Int) (S : Int) (Ns : Int) name off] w fun e w' => e = .returned (.string ⟨(Fs.wr (tmOf Y M D Hh Mi S Ns name off) ⟨3, T, N, C⟩).toArray⟩) ∧ Below w.heap.size w w' := by
  have y9 := CF.y9
  have d31 := CF.date.d31
  have m1 := CF.date.m1
  have m2 := CF.date.m2
  obtain ⟨h23, mi59, s59, ns9⟩ := CF.clock
  have o1 := CF.o1
  have o2 := CF.o2
  have hyd := Fs.yearDay_le CF.date
  have hwd : Fs.wday (Y : Int) M D ≤ 6 := by unfold Fs.wday; omega
  have h12 : Fs.hr12 Hh ≤ 12 := by unfold Fs.hr12; split <;> omega
  have hmn := monthName_3 m1 m2
  have hdn := dayName_3 hwd
  have HE : Fs.wr (tmOf Y M D Hh Mi S Ns name off) ⟨3, T, N, C⟩ = Fs.monthName M := by
    show Fs.wr _ _ = _
    rfl
  rw [HE]
  have H0 := hide (fun w => monthName_any M m1 m2 w)
  clear HE CF
  have b0 := ((Below.refl w.heap.size w).alloc (Nat.le_refl _) (Obj.cells #[.int .i64 3, .string ⟨T.toArray⟩, .int .i64 N, .bool C] 34)).alloc (by simp) (Obj.cells #[.int .i64 (Y : Int), .int .i64 (M : Int), .int .i64 (D : Int), .int .i64 (Hh : Int), .int .i64 (Mi : Int), .int .i64 (S : Int), .int .i64 (Ns : Int), .string ⟨name.toArray⟩, .int .i64 off] 25)
  unfold civilV at *
  go_enter Tryd.func52, Tryd.ntmps52
  go_wp2_with fail
  refine (H0.out _).mono ?_
  rintro e w1 ⟨rfl, hq1⟩
  have b1 := b0.trans (hq1.below _)
  clear hq1
  go_wp2_with fail
  go_ret
  exact ⟨rfl, b1⟩
set_option maxRecDepth 100000 in
set_option maxHeartbeats 4000000 in
theorem written_4 {name : List UInt8} {off : Int} {Y M D Hh Mi S Ns : Nat} (CF : CivF Y M D Hh Mi S Ns name off Y M D Hh Mi S Ns) (T : List UInt8) (N : Int) (C : Bool) (w : World) :
    Calls Tryd.prog 52 #[.agg #[.int .i64 4, .string ⟨T.toArray⟩, .int .i64 N, .bool C], civilV (Y : Int) (M : Int) (D : Int) (Hh : Int) (Mi : Int) (S : Int) (Ns : Int) name off] w fun e w' => e = .returned (.string ⟨(Fs.wr (tmOf Y M D Hh Mi S Ns name off) ⟨4, T, N, C⟩).toArray⟩) ∧ Below w.heap.size w w' := by
  have y9 := CF.y9
  have d31 := CF.date.d31
  have m1 := CF.date.m1
  have m2 := CF.date.m2
  obtain ⟨h23, mi59, s59, ns9⟩ := CF.clock
  have o1 := CF.o1
  have o2 := CF.o2
  have hyd := Fs.yearDay_le CF.date
  have hwd : Fs.wday (Y : Int) M D ≤ 6 := by unfold Fs.wday; omega
  have h12 : Fs.hr12 Hh ≤ 12 := by unfold Fs.hr12; split <;> omega
  have hmn := monthName_3 m1 m2
  have hdn := dayName_3 hwd
  have HE : Fs.wr (tmOf Y M D Hh Mi S Ns name off) ⟨4, T, N, C⟩ = List.take 3 (Fs.monthName M) := by
    show Fs.wr _ _ = _
    rfl
  rw [HE]
  have H0 := hide (fun w => monthName_any M m1 m2 w)
  clear HE CF
  have b0 := ((Below.refl w.heap.size w).alloc (Nat.le_refl _) (Obj.cells #[.int .i64 4, .string ⟨T.toArray⟩, .int .i64 N, .bool C] 34)).alloc (by simp) (Obj.cells #[.int .i64 (Y : Int), .int .i64 (M : Int), .int .i64 (D : Int), .int .i64 (Hh : Int), .int .i64 (Mi : Int), .int .i64 (S : Int), .int .i64 (Ns : Int), .string ⟨name.toArray⟩, .int .i64 off] 25)
  unfold civilV at *
  go_enter Tryd.func52, Tryd.ntmps52
  go_wp2_with fail
  refine (H0.out _).mono ?_
  rintro e w1 ⟨rfl, hq1⟩
  have b1 := b0.trans (hq1.below _)
  clear hq1
  go_wp2_with fail
  go_ret
  exact ⟨rfl, b1⟩
set_option maxRecDepth 100000 in
set_option maxHeartbeats 4000000 in
theorem written_5 {name : List UInt8} {off : Int} {Y M D Hh Mi S Ns : Nat} (CF : CivF Y M D Hh Mi S Ns name off Y M D Hh Mi S Ns) (T : List UInt8) (N : Int) (C : Bool) (w : World) :
    Calls Tryd.prog 52 #[.agg #[.int .i64 5, .string ⟨T.toArray⟩, .int .i64 N, .bool C], civilV (Y : Int) (M : Int) (D : Int) (Hh : Int) (Mi : Int) (S : Int) (Ns : Int) name off] w fun e w' => e = .returned (.string ⟨(Fs.wr (tmOf Y M D Hh Mi S Ns name off) ⟨5, T, N, C⟩).toArray⟩) ∧ Below w.heap.size w w' := by
  have y9 := CF.y9
  have d31 := CF.date.d31
  have m1 := CF.date.m1
  have m2 := CF.date.m2
  obtain ⟨h23, mi59, s59, ns9⟩ := CF.clock
  have o1 := CF.o1
  have o2 := CF.o2
  have hyd := Fs.yearDay_le CF.date
  have hwd : Fs.wday (Y : Int) M D ≤ 6 := by unfold Fs.wday; omega
  have h12 : Fs.hr12 Hh ≤ 12 := by unfold Fs.hr12; split <;> omega
  have hmn := monthName_3 m1 m2
  have hdn := dayName_3 hwd
  have HE : Fs.wr (tmOf Y M D Hh Mi S Ns name off) ⟨5, T, N, C⟩ = Fs.dg 2 M := by
    show Fs.wr _ _ = _
    rfl
  rw [HE]
  have H0 := hide (fun w => Digits_any M 2 (by omega) (by omega) w)
  clear HE CF
  have b0 := ((Below.refl w.heap.size w).alloc (Nat.le_refl _) (Obj.cells #[.int .i64 5, .string ⟨T.toArray⟩, .int .i64 N, .bool C] 34)).alloc (by simp) (Obj.cells #[.int .i64 (Y : Int), .int .i64 (M : Int), .int .i64 (D : Int), .int .i64 (Hh : Int), .int .i64 (Mi : Int), .int .i64 (S : Int), .int .i64 (Ns : Int), .string ⟨name.toArray⟩, .int .i64 off] 25)
  unfold civilV at *
  go_enter Tryd.func52, Tryd.ntmps52
  go_wp2_with fail
  refine (H0.out _).mono ?_
  rintro e w1 ⟨rfl, hq1⟩
  have b1 := b0.trans (hq1.mono (by simp; omega))
  clear hq1
  go_wp2_with fail
  go_ret
  exact ⟨rfl, b1⟩
set_option maxRecDepth 100000 in
set_option maxHeartbeats 4000000 in
theorem written_6 {name : List UInt8} {off : Int} {Y M D Hh Mi S Ns : Nat} (CF : CivF Y M D Hh Mi S Ns name off Y M D Hh Mi S Ns) (T : List UInt8) (N : Int) (C : Bool) (w : World) :
    Calls Tryd.prog 52 #[.agg #[.int .i64 6, .string ⟨T.toArray⟩, .int .i64 N, .bool C], civilV (Y : Int) (M : Int) (D : Int) (Hh : Int) (Mi : Int) (S : Int) (Ns : Int) name off] w fun e w' => e = .returned (.string ⟨(Fs.wr (tmOf Y M D Hh Mi S Ns name off) ⟨6, T, N, C⟩).toArray⟩) ∧ Below w.heap.size w w' := by
  have y9 := CF.y9
  have d31 := CF.date.d31
  have m1 := CF.date.m1
  have m2 := CF.date.m2
  obtain ⟨h23, mi59, s59, ns9⟩ := CF.clock
  have o1 := CF.o1
  have o2 := CF.o2
  have hyd := Fs.yearDay_le CF.date
  have hwd : Fs.wday (Y : Int) M D ≤ 6 := by unfold Fs.wday; omega
  have h12 : Fs.hr12 Hh ≤ 12 := by unfold Fs.hr12; split <;> omega
  have hmn := monthName_3 m1 m2
  have hdn := dayName_3 hwd
  have HE : Fs.wr (tmOf Y M D Hh Mi S Ns name off) ⟨6, T, N, C⟩ = Fs.dg 1 M := by
    show Fs.wr _ _ = _
    show Fs.elem (tmOf Y M D Hh Mi S Ns name off) 259 = _; exact Fs.dg_zero_one M
  rw [HE]
  have H0 := hide (fun w => Digits_any M 1 (by omega) (by omega) w)
  clear HE CF
  have b0 := ((Below.refl w.heap.size w).alloc (Nat.le_refl _) (Obj.cells #[.int .i64 6, .string ⟨T.toArray⟩, .int .i64 N, .bool C] 34)).alloc (by simp) (Obj.cells #[.int .i64 (Y : Int), .int .i64 (M : Int), .int .i64 (D : Int), .int .i64 (Hh : Int), .int .i64 (Mi : Int), .int .i64 (S : Int), .int .i64 (Ns : Int), .string ⟨name.toArray⟩, .int .i64 off] 25)
  unfold civilV at *
  go_enter Tryd.func52, Tryd.ntmps52
  go_wp2_with fail
  refine (H0.out _).mono ?_
  rintro e w1 ⟨rfl, hq1⟩
  have b1 := b0.trans (hq1.mono (by simp; omega))
  clear hq1
  go_wp2_with fail
  go_ret
  exact ⟨rfl, b1⟩
set_option maxRecDepth 100000 in
set_option maxHeartbeats 4000000 in
theorem written_7 {name : List UInt8} {off : Int} {Y M D Hh Mi S Ns : Nat} (CF : CivF Y M D Hh Mi S Ns name off Y M D Hh Mi S Ns) (T : List UInt8) (N : Int) (C : Bool) (w : World) :
    Calls Tryd.prog 52 #[.agg #[.int .i64 7, .string ⟨T.toArray⟩, .int .i64 N, .bool C], civilV (Y : Int) (M : Int) (D : Int) (Hh : Int) (Mi : Int) (S : Int) (Ns : Int) name off] w fun e w' => e = .returned (.string ⟨(Fs.wr (tmOf Y M D Hh Mi S Ns name off) ⟨7, T, N, C⟩).toArray⟩) ∧ Below w.heap.size w w' := by
  have y9 := CF.y9
  have d31 := CF.date.d31
  have m1 := CF.date.m1
  have m2 := CF.date.m2
  obtain ⟨h23, mi59, s59, ns9⟩ := CF.clock
  have o1 := CF.o1
  have o2 := CF.o2
  have hyd := Fs.yearDay_le CF.date
  have hwd : Fs.wday (Y : Int) M D ≤ 6 := by unfold Fs.wday; omega
  have h12 : Fs.hr12 Hh ≤ 12 := by unfold Fs.hr12; split <;> omega
  have hmn := monthName_3 m1 m2
  have hdn := dayName_3 hwd
  have HE : Fs.wr (tmOf Y M D Hh Mi S Ns name off) ⟨7, T, N, C⟩ = Fs.dayName (Fs.wday (Y : Int) M D) := by
    show Fs.wr _ _ = _
    rfl
  rw [HE]
  have H0 := hide (fun w => Weekday_any CF w)
  have H1 := hide (fun w => dayName_any (Fs.wday (Y : Int) M D) hwd w)
  clear HE CF
  have b0 := ((Below.refl w.heap.size w).alloc (Nat.le_refl _) (Obj.cells #[.int .i64 7, .string ⟨T.toArray⟩, .int .i64 N, .bool C] 34)).alloc (by simp) (Obj.cells #[.int .i64 (Y : Int), .int .i64 (M : Int), .int .i64 (D : Int), .int .i64 (Hh : Int), .int .i64 (Mi : Int), .int .i64 (S : Int), .int .i64 (Ns : Int), .string ⟨name.toArray⟩, .int .i64 off] 25)
  unfold civilV at *
  go_enter Tryd.func52, Tryd.ntmps52
  go_wp2_with fail
  refine (H0.out _).mono ?_
  rintro e w1 ⟨rfl, hq1⟩
  have b1 := b0.trans (hq1.mono (by simp; omega))
  clear hq1
  go_wp2_with fail
  refine (H1.out _).mono ?_
  rintro e w2 ⟨rfl, hq2⟩
  have b2 := b1.trans (hq2.below _)
  clear hq2
  go_wp2_with fail
  go_ret
  exact ⟨rfl, b2⟩
set_option maxRecDepth 100000 in
set_option maxHeartbeats 4000000 in
theorem written_8 {name : List UInt8} {off : Int} {Y M D Hh Mi S Ns : Nat} (CF : CivF Y M D Hh Mi S Ns name off Y M D Hh Mi S Ns) (T : List UInt8) (N : Int) (C : Bool) (w : World) :
    Calls Tryd.prog 52 #[.agg #[.int .i64 8, .string ⟨T.toArray⟩, .int .i64 N, .bool C], civilV (Y : Int) (M : Int) (D : Int) (Hh : Int) (Mi : Int) (S : Int) (Ns : Int) name off] w fun e w' => e = .returned (.string ⟨(Fs.wr (tmOf Y M D Hh Mi S Ns name off) ⟨8, T, N, C⟩).toArray⟩) ∧ Below w.heap.size w w' := by
  have y9 := CF.y9
  have d31 := CF.date.d31
  have m1 := CF.date.m1
  have m2 := CF.date.m2
  obtain ⟨h23, mi59, s59, ns9⟩ := CF.clock
  have o1 := CF.o1
  have o2 := CF.o2
  have hyd := Fs.yearDay_le CF.date
  have hwd : Fs.wday (Y : Int) M D ≤ 6 := by unfold Fs.wday; omega
  have h12 : Fs.hr12 Hh ≤ 12 := by unfold Fs.hr12; split <;> omega
  have hmn := monthName_3 m1 m2
  have hdn := dayName_3 hwd
  have HE : Fs.wr (tmOf Y M D Hh Mi S Ns name off) ⟨8, T, N, C⟩ = List.take 3 (Fs.dayName (Fs.wday (Y : Int) M D)) := by
    show Fs.wr _ _ = _
    rfl
  rw [HE]
  have H0 := hide (fun w => Weekday_any CF w)
  have H1 := hide (fun w => dayName_any (Fs.wday (Y : Int) M D) hwd w)
  clear HE CF
  have b0 := ((Below.refl w.heap.size w).alloc (Nat.le_refl _) (Obj.cells #[.int .i64 8, .string ⟨T.toArray⟩, .int .i64 N, .bool C] 34)).alloc (by simp) (Obj.cells #[.int .i64 (Y : Int), .int .i64 (M : Int), .int .i64 (D : Int), .int .i64 (Hh : Int), .int .i64 (Mi : Int), .int .i64 (S : Int), .int .i64 (Ns : Int), .string ⟨name.toArray⟩, .int .i64 off] 25)
  unfold civilV at *
  go_enter Tryd.func52, Tryd.ntmps52
  go_wp2_with fail
  refine (H0.out _).mono ?_
  rintro e w1 ⟨rfl, hq1⟩
  have b1 := b0.trans (hq1.mono (by simp; omega))
  clear hq1
  go_wp2_with fail
  refine (H1.out _).mono ?_
  rintro e w2 ⟨rfl, hq2⟩
  have b2 := b1.trans (hq2.below _)
  clear hq2
  go_wp2_with fail
  go_ret
  exact ⟨rfl, b2⟩
set_option maxRecDepth 100000 in
set_option maxHeartbeats 4000000 in
theorem written_9 {name : List UInt8} {off : Int} {Y M D Hh Mi S Ns : Nat} (CF : CivF Y M D Hh Mi S Ns name off Y M D Hh Mi S Ns) (T : List UInt8) (N : Int) (C : Bool) (w : World) :
    Calls Tryd.prog 52 #[.agg #[.int .i64 9, .string ⟨T.toArray⟩, .int .i64 N, .bool C], civilV (Y : Int) (M : Int) (D : Int) (Hh : Int) (Mi : Int) (S : Int) (Ns : Int) name off] w fun e w' => e = .returned (.string ⟨(Fs.wr (tmOf Y M D Hh Mi S Ns name off) ⟨9, T, N, C⟩).toArray⟩) ∧ Below w.heap.size w w' := by
  have y9 := CF.y9
  have d31 := CF.date.d31
  have m1 := CF.date.m1
  have m2 := CF.date.m2
  obtain ⟨h23, mi59, s59, ns9⟩ := CF.clock
  have o1 := CF.o1
  have o2 := CF.o2
  have hyd := Fs.yearDay_le CF.date
  have hwd : Fs.wday (Y : Int) M D ≤ 6 := by unfold Fs.wday; omega
  have h12 : Fs.hr12 Hh ≤ 12 := by unfold Fs.hr12; split <;> omega
  have hmn := monthName_3 m1 m2
  have hdn := dayName_3 hwd
  have HE : Fs.wr (tmOf Y M D Hh Mi S Ns name off) ⟨9, T, N, C⟩ = Fs.dg 1 D := by
    show Fs.wr _ _ = _
    show Fs.elem (tmOf Y M D Hh Mi S Ns name off) 263 = _; exact Fs.dg_zero_one D
  rw [HE]
  have H0 := hide (fun w => Digits_any D 1 (by omega) (by omega) w)
  clear HE CF
  have b0 := ((Below.refl w.heap.size w).alloc (Nat.le_refl _) (Obj.cells #[.int .i64 9, .string ⟨T.toArray⟩, .int .i64 N, .bool C] 34)).alloc (by simp) (Obj.cells #[.int .i64 (Y : Int), .int .i64 (M : Int), .int .i64 (D : Int), .int .i64 (Hh : Int), .int .i64 (Mi : Int), .int .i64 (S : Int), .int .i64 (Ns : Int), .string ⟨name.toArray⟩, .int .i64 off] 25)
  unfold civilV at *
  go_enter Tryd.func52, Tryd.ntmps52
  go_wp2_with fail
  refine (H0.out _).mono ?_
  rintro e w1 ⟨rfl, hq1⟩
  have b1 := b0.trans (hq1.mono (by simp; omega))
  clear hq1
  go_wp2_with fail
  go_ret
  exact ⟨rfl, b1⟩
set_option maxRecDepth 100000 in
set_option maxHeartbeats 4000000 in
theorem written_10 {name : List UInt8} {off : Int} {Y M D Hh Mi S Ns : Nat} (CF : CivF Y M D Hh Mi S Ns name off Y M D Hh Mi S Ns) (T : List UInt8) (N : Int) (C : Bool) (w : World) :
    Calls Tryd.prog 52 #[.agg #[.int .i64 10, .string ⟨T.toArray⟩, .int .i64 N, .bool C], civilV (Y : Int) (M : Int) (D : Int) (Hh : Int) (Mi : Int) (S : Int) (Ns : Int) name off] w fun e w' => e = .returned (.string ⟨(Fs.wr (tmOf Y M D Hh Mi S Ns name off) ⟨10, T, N, C⟩).toArray⟩) ∧ Below w.heap.size w w' := by
  have y9 := CF.y9
  have d31 := CF.date.d31
  have m1 := CF.date.m1
  have m2 := CF.date.m2
  obtain ⟨h23, mi59, s59, ns9⟩ := CF.clock
  have o1 := CF.o1
  have o2 := CF.o2
  have hyd := Fs.yearDay_le CF.date
  have hwd : Fs.wday (Y : Int) M D ≤ 6 := by unfold Fs.wday; omega
  have h12 : Fs.hr12 Hh ≤ 12 := by unfold Fs.hr12; split <;> omega
  have hmn := monthName_3 m1 m2
  have hdn := dayName_3 hwd
  have HE : Fs.wr (tmOf Y M D Hh Mi S Ns name off) ⟨10, T, N, C⟩ = Fs.pad 32 2 (Fs.dig D) := by
    show Fs.wr _ _ = _
    show Fs.elem (tmOf Y M D Hh Mi S Ns name off) 264 = _; exact Fs.blank_two (show D < 100 by omega)
  rw [HE]
  have H0 := hide (fun w => Blank_any D 2 (by omega) (by omega) w)
  clear HE CF
  have b0 := ((Below.refl w.heap.size w).alloc (Nat.le_refl _) (Obj.cells #[.int .i64 10, .string ⟨T.toArray⟩, .int .i64 N, .bool C] 34)).alloc (by simp) (Obj.cells #[.int .i64 (Y : Int), .int .i64 (M : Int), .int .i64 (D : Int), .int .i64 (Hh : Int), .int .i64 (Mi : Int), .int .i64 (S : Int), .int .i64 (Ns : Int), .string ⟨name.toArray⟩, .int .i64 off] 25)
  unfold civilV at *
  go_enter Tryd.func52, Tryd.ntmps52
  go_wp2_with fail
  refine (H0.out _).mono ?_
  rintro e w1 ⟨rfl, hq1⟩
  have b1 := b0.trans (hq1.mono (by simp; omega))
  clear hq1
  go_wp2_with fail
  go_ret
  exact ⟨rfl, b1⟩
set_option maxRecDepth 100000 in
set_option maxHeartbeats 4000000 in
theorem written_11 {name : List UInt8} {off : Int} {Y M D Hh Mi S Ns : Nat} (CF : CivF Y M D Hh Mi S Ns name off Y M D Hh Mi S Ns) (T : List UInt8) (N : Int) (C : Bool) (w : World) :
    Calls Tryd.prog 52 #[.agg #[.int .i64 11, .string ⟨T.toArray⟩, .int .i64 N, .bool C], civilV (Y : Int) (M : Int) (D : Int) (Hh : Int) (Mi : Int) (S : Int) (Ns : Int) name off] w fun e w' => e = .returned (.string ⟨(Fs.wr (tmOf Y M D Hh Mi S Ns name off) ⟨11, T, N, C⟩).toArray⟩) ∧ Below w.heap.size w w' := by
  have y9 := CF.y9
  have d31 := CF.date.d31
  have m1 := CF.date.m1
  have m2 := CF.date.m2
  obtain ⟨h23, mi59, s59, ns9⟩ := CF.clock
  have o1 := CF.o1
  have o2 := CF.o2
  have hyd := Fs.yearDay_le CF.date
  have hwd : Fs.wday (Y : Int) M D ≤ 6 := by unfold Fs.wday; omega
  have h12 : Fs.hr12 Hh ≤ 12 := by unfold Fs.hr12; split <;> omega
  have hmn := monthName_3 m1 m2
  have hdn := dayName_3 hwd
  have HE : Fs.wr (tmOf Y M D Hh Mi S Ns name off) ⟨11, T, N, C⟩ = Fs.dg 2 D := by
    show Fs.wr _ _ = _
    rfl
  rw [HE]
  have H0 := hide (fun w => Digits_any D 2 (by omega) (by omega) w)
  clear HE CF
  have b0 := ((Below.refl w.heap.size w).alloc (Nat.le_refl _) (Obj.cells #[.int .i64 11, .string ⟨T.toArray⟩, .int .i64 N, .bool C] 34)).alloc (by simp) (Obj.cells #[.int .i64 (Y : Int), .int .i64 (M : Int), .int .i64 (D : Int), .int .i64 (Hh : Int), .int .i64 (Mi : Int), .int .i64 (S : Int), .int .i64 (Ns : Int), .string ⟨name.toArray⟩, .int .i64 off] 25)
  unfold civilV at *
  go_enter Tryd.func52, Tryd.ntmps52
  go_wp2_with fail
  refine (H0.out _).mono ?_
  rintro e w1 ⟨rfl, hq1⟩
  have b1 := b0.trans (hq1.mono (by simp; omega))
  clear hq1
  go_wp2_with fail
  go_ret
  exact ⟨rfl, b1⟩
set_option maxRecDepth 100000 in
set_option maxHeartbeats 4000000 in
theorem written_12 {name : List UInt8} {off : Int} {Y M D Hh Mi S Ns : Nat} (CF : CivF Y M D Hh Mi S Ns name off Y M D Hh Mi S Ns) (T : List UInt8) (N : Int) (C : Bool) (w : World) :
    Calls Tryd.prog 52 #[.agg #[.int .i64 12, .string ⟨T.toArray⟩, .int .i64 N, .bool C], civilV (Y : Int) (M : Int) (D : Int) (Hh : Int) (Mi : Int) (S : Int) (Ns : Int) name off] w fun e w' => e = .returned (.string ⟨(Fs.wr (tmOf Y M D Hh Mi S Ns name off) ⟨12, T, N, C⟩).toArray⟩) ∧ Below w.heap.size w w' := by
  have y9 := CF.y9
  have d31 := CF.date.d31
  have m1 := CF.date.m1
  have m2 := CF.date.m2
  obtain ⟨h23, mi59, s59, ns9⟩ := CF.clock
  have o1 := CF.o1
  have o2 := CF.o2
  have hyd := Fs.yearDay_le CF.date
  have hwd : Fs.wday (Y : Int) M D ≤ 6 := by unfold Fs.wday; omega
  have h12 : Fs.hr12 Hh ≤ 12 := by unfold Fs.hr12; split <;> omega
  have hmn := monthName_3 m1 m2
  have hdn := dayName_3 hwd
  have HE : Fs.wr (tmOf Y M D Hh Mi S Ns name off) ⟨12, T, N, C⟩ = Fs.pad 32 3 (Fs.dig (Fs.yearDay (Y : Int) M D)) := by
    show Fs.wr _ _ = _
    show Fs.elem (tmOf Y M D Hh Mi S Ns name off) 522 = _; exact Fs.blank_three (show Fs.yearDay (Y : Int) M D < 1000 by omega)
  rw [HE]
  have H0 := hide (fun w => YearDay_any CF w)
  have H1 := hide (fun w => Blank_any (Fs.yearDay (Y : Int) M D) 3 (by omega) (by omega) w)
  clear HE CF
  have b0 := ((Below.refl w.heap.size w).alloc (Nat.le_refl _) (Obj.cells #[.int .i64 12, .string ⟨T.toArray⟩, .int .i64 N, .bool C] 34)).alloc (by simp) (Obj.cells #[.int .i64 (Y : Int), .int .i64 (M : Int), .int .i64 (D : Int), .int .i64 (Hh : Int), .int .i64 (Mi : Int), .int .i64 (S : Int), .int .i64 (Ns : Int), .string ⟨name.toArray⟩, .int .i64 off] 25)
  unfold civilV at *
  go_enter Tryd.func52, Tryd.ntmps52
  go_wp2_with fail
  refine (H0.out _).mono ?_
  rintro e w1 ⟨rfl, hq1⟩
  have b1 := b0.trans (hq1.mono (by simp; omega))
  clear hq1
  go_wp2_with fail
  refine (H1.out _).mono ?_
  rintro e w2 ⟨rfl, hq2⟩
  have b2 := b1.trans (hq2.mono b1.size)
  clear hq2
  go_wp2_with fail
  go_ret
  exact ⟨rfl, b2⟩
set_option maxRecDepth 100000 in
set_option maxHeartbeats 4000000 in
theorem written_13 {name : List UInt8} {off : Int} {Y M D Hh Mi S Ns : Nat} (CF : CivF Y M D Hh Mi S Ns name off Y M D Hh Mi S Ns) (T : List UInt8) (N : Int) (C : Bool) (w : World) :
    Calls Tryd.prog 52 #[.agg #[.int .i64 13, .string ⟨T.toArray⟩, .int .i64 N, .bool C], civilV (Y : Int) (M : Int) (D : Int) (Hh : Int) (Mi : Int) (S : Int) (Ns : Int) name off] w fun e w' => e = .returned (.string ⟨(Fs.wr (tmOf Y M D Hh Mi S Ns name off) ⟨13, T, N, C⟩).toArray⟩) ∧ Below w.heap.size w w' := by
  have y9 := CF.y9
  have d31 := CF.date.d31
  have m1 := CF.date.m1
  have m2 := CF.date.m2
  obtain ⟨h23, mi59, s59, ns9⟩ := CF.clock
  have o1 := CF.o1
  have o2 := CF.o2
  have hyd := Fs.yearDay_le CF.date
  have hwd : Fs.wday (Y : Int) M D ≤ 6 := by unfold Fs.wday; omega
  have h12 : Fs.hr12 Hh ≤ 12 := by unfold Fs.hr12; split <;> omega
  have hmn := monthName_3 m1 m2
  have hdn := dayName_3 hwd
  have HE : Fs.wr (tmOf Y M D Hh Mi S Ns name off) ⟨13, T, N, C⟩ = Fs.dg 3 (Fs.yearDay (Y : Int) M D) := by
    show Fs.wr _ _ = _
    rfl
  rw [HE]
  have H0 := hide (fun w => YearDay_any CF w)
  have H1 := hide (fun w => Digits_any (Fs.yearDay (Y : Int) M D) 3 (by omega) (by omega) w)
  clear HE CF
  have b0 := ((Below.refl w.heap.size w).alloc (Nat.le_refl _) (Obj.cells #[.int .i64 13, .string ⟨T.toArray⟩, .int .i64 N, .bool C] 34)).alloc (by simp) (Obj.cells #[.int .i64 (Y : Int), .int .i64 (M : Int), .int .i64 (D : Int), .int .i64 (Hh : Int), .int .i64 (Mi : Int), .int .i64 (S : Int), .int .i64 (Ns : Int), .string ⟨name.toArray⟩, .int .i64 off] 25)
  unfold civilV at *
  go_enter Tryd.func52, Tryd.ntmps52
  go_wp2_with fail
  refine (H0.out _).mono ?_
  rintro e w1 ⟨rfl, hq1⟩
  have b1 := b0.trans (hq1.mono (by simp; omega))
  clear hq1
  go_wp2_with fail
  refine (H1.out _).mono ?_
  rintro e w2 ⟨rfl, hq2⟩
  have b2 := b1.trans (hq2.mono b1.size)
  clear hq2
  go_wp2_with fail
  go_ret
  exact ⟨rfl, b2⟩
set_option maxRecDepth 100000 in
set_option maxHeartbeats 4000000 in
theorem written_14 {name : List UInt8} {off : Int} {Y M D Hh Mi S Ns : Nat} (CF : CivF Y M D Hh Mi S Ns name off Y M D Hh Mi S Ns) (T : List UInt8) (N : Int) (C : Bool) (w : World) :
    Calls Tryd.prog 52 #[.agg #[.int .i64 14, .string ⟨T.toArray⟩, .int .i64 N, .bool C], civilV (Y : Int) (M : Int) (D : Int) (Hh : Int) (Mi : Int) (S : Int) (Ns : Int) name off] w fun e w' => e = .returned (.string ⟨(Fs.wr (tmOf Y M D Hh Mi S Ns name off) ⟨14, T, N, C⟩).toArray⟩) ∧ Below w.heap.size w w' := by
  have y9 := CF.y9
  have d31 := CF.date.d31
  have m1 := CF.date.m1
  have m2 := CF.date.m2
  obtain ⟨h23, mi59, s59, ns9⟩ := CF.clock
  have o1 := CF.o1
  have o2 := CF.o2
  have hyd := Fs.yearDay_le CF.date
  have hwd : Fs.wday (Y : Int) M D ≤ 6 := by unfold Fs.wday; omega
  have h12 : Fs.hr12 Hh ≤ 12 := by unfold Fs.hr12; split <;> omega
  have hmn := monthName_3 m1 m2
  have hdn := dayName_3 hwd
  have HE : Fs.wr (tmOf Y M D Hh Mi S Ns name off) ⟨14, T, N, C⟩ = Fs.dg 2 Hh := by
    show Fs.wr _ _ = _
    rfl
  rw [HE]
  have H0 := hide (fun w => Digits_any Hh 2 (by omega) (by omega) w)
  clear HE CF
  have b0 := ((Below.refl w.heap.size w).alloc (Nat.le_refl _) (Obj.cells #[.int .i64 14, .string ⟨T.toArray⟩, .int .i64 N, .bool C] 34)).alloc (by simp) (Obj.cells #[.int .i64 (Y : Int), .int .i64 (M : Int), .int .i64 (D : Int), .int .i64 (Hh : Int), .int .i64 (Mi : Int), .int .i64 (S : Int), .int .i64 (Ns : Int), .string ⟨name.toArray⟩, .int .i64 off] 25)
  unfold civilV at *
  go_enter Tryd.func52, Tryd.ntmps52
  go_wp2_with fail
  refine (H0.out _).mono ?_
  rintro e w1 ⟨rfl, hq1⟩
  have b1 := b0.trans (hq1.mono (by simp; omega))
  clear hq1
  go_wp2_with fail
  go_ret
  exact ⟨rfl, b1⟩
set_option maxRecDepth 100000 in
set_option maxHeartbeats 4000000 in
theorem written_15 {name : List UInt8} {off : Int} {Y M D Hh Mi S Ns : Nat} (CF : CivF Y M D Hh Mi S Ns name off Y M D Hh Mi S Ns) (T : List UInt8) (N : Int) (C : Bool) (w : World) :
    Calls Tryd.prog 52 #[.agg #[.int .i64 15, .string ⟨T.toArray⟩, .int .i64 N, .bool C], civilV (Y : Int) (M : Int) (D : Int) (Hh : Int) (Mi : Int) (S : Int) (Ns : Int) name off] w fun e w' => e = .returned (.string ⟨(Fs.wr (tmOf Y M D Hh Mi S Ns name off) ⟨15, T, N, C⟩).toArray⟩) ∧ Below w.heap.size w w' := by
  have y9 := CF.y9
  have d31 := CF.date.d31
  have m1 := CF.date.m1
  have m2 := CF.date.m2
  obtain ⟨h23, mi59, s59, ns9⟩ := CF.clock
  have o1 := CF.o1
  have o2 := CF.o2
  have hyd := Fs.yearDay_le CF.date
  have hwd : Fs.wday (Y : Int) M D ≤ 6 := by unfold Fs.wday; omega
  have h12 : Fs.hr12 Hh ≤ 12 := by unfold Fs.hr12; split <;> omega
  have hmn := monthName_3 m1 m2
  have hdn := dayName_3 hwd
  have HE : Fs.wr (tmOf Y M D Hh Mi S Ns name off) ⟨15, T, N, C⟩ = Fs.dg 1 (Fs.hr12 Hh) := by
    show Fs.wr _ _ = _
    show Fs.elem (tmOf Y M D Hh Mi S Ns name off) 1037 = _; exact Fs.dg_zero_one _
  rw [HE]
  have H0 := hide (fun w => hour12_any Hh w)
  have H1 := hide (fun w => Digits_any (Fs.hr12 Hh) 1 (by omega) (by omega) w)
  clear HE CF
  have b0 := ((Below.refl w.heap.size w).alloc (Nat.le_refl _) (Obj.cells #[.int .i64 15, .string ⟨T.toArray⟩, .int .i64 N, .bool C] 34)).alloc (by simp) (Obj.cells #[.int .i64 (Y : Int), .int .i64 (M : Int), .int .i64 (D : Int), .int .i64 (Hh : Int), .int .i64 (Mi : Int), .int .i64 (S : Int), .int .i64 (Ns : Int), .string ⟨name.toArray⟩, .int .i64 off] 25)
  unfold civilV at *
  go_enter Tryd.func52, Tryd.ntmps52
  go_wp2_with fail
  refine (H0.out _).mono ?_
  rintro e w1 ⟨rfl, hq1⟩
  have b1 := b0.trans (hq1.below _)
  clear hq1
  go_wp2_with fail
  refine (H1.out _).mono ?_
  rintro e w2 ⟨rfl, hq2⟩
  have b2 := b1.trans (hq2.mono b1.size)
  clear hq2
  go_wp2_with fail
  go_ret
  exact ⟨rfl, b2⟩
set_option maxRecDepth 100000 in
set_option maxHeartbeats 4000000 in
theorem written_16 {name : List UInt8} {off : Int} {Y M D Hh Mi S Ns : Nat} (CF : CivF Y M D Hh Mi S Ns name off Y M D Hh Mi S Ns) (T : List UInt8) (N : Int) (C : Bool) (w : World) :
    Calls Tryd.prog 52 #[.agg #[.int .i64 16, .string ⟨T.toArray⟩, .int .i64 N, .bool C], civilV (Y : Int) (M : Int) (D : Int) (Hh : Int) (Mi : Int) (S : Int) (Ns : Int) name off] w fun e w' => e = .returned (.string ⟨(Fs.wr (tmOf Y M D Hh Mi S Ns name off) ⟨16, T, N, C⟩).toArray⟩) ∧ Below w.heap.size w w' := by
  have y9 := CF.y9
  have d31 := CF.date.d31
  have m1 := CF.date.m1
  have m2 := CF.date.m2
  obtain ⟨h23, mi59, s59, ns9⟩ := CF.clock
  have o1 := CF.o1
  have o2 := CF.o2
  have hyd := Fs.yearDay_le CF.date
  have hwd : Fs.wday (Y : Int) M D ≤ 6 := by unfold Fs.wday; omega
  have h12 : Fs.hr12 Hh ≤ 12 := by unfold Fs.hr12; split <;> omega
  have hmn := monthName_3 m1 m2
  have hdn := dayName_3 hwd
  have HE : Fs.wr (tmOf Y M D Hh Mi S Ns name off) ⟨16, T, N, C⟩ = Fs.dg 2 (Fs.hr12 Hh) := by
    show Fs.wr _ _ = _
    rfl
  rw [HE]
  have H0 := hide (fun w => hour12_any Hh w)
  have H1 := hide (fun w => Digits_any (Fs.hr12 Hh) 2 (by omega) (by omega) w)
  clear HE CF
  have b0 := ((Below.refl w.heap.size w).alloc (Nat.le_refl _) (Obj.cells #[.int .i64 16, .string ⟨T.toArray⟩, .int .i64 N, .bool C] 34)).alloc (by simp) (Obj.cells #[.int .i64 (Y : Int), .int .i64 (M : Int), .int .i64 (D : Int), .int .i64 (Hh : Int), .int .i64 (Mi : Int), .int .i64 (S : Int), .int .i64 (Ns : Int), .string ⟨name.toArray⟩, .int .i64 off] 25)
  unfold civilV at *
  go_enter Tryd.func52, Tryd.ntmps52
  go_wp2_with fail
  refine (H0.out _).mono ?_
  rintro e w1 ⟨rfl, hq1⟩
  have b1 := b0.trans (hq1.below _)
  clear hq1
  go_wp2_with fail
  refine (H1.out _).mono ?_
  rintro e w2 ⟨rfl, hq2⟩
  have b2 := b1.trans (hq2.mono b1.size)
  clear hq2
  go_wp2_with fail
  go_ret
  exact ⟨rfl, b2⟩
set_option maxRecDepth 100000 in
set_option maxHeartbeats 4000000 in
theorem written_17 {name : List UInt8} {off : Int} {Y M D Hh Mi S Ns : Nat} (CF : CivF Y M D Hh Mi S Ns name off Y M D Hh Mi S Ns) (T : List UInt8) (N : Int) (C : Bool) (w : World) :
    Calls Tryd.prog 52 #[.agg #[.int .i64 17, .string ⟨T.toArray⟩, .int .i64 N, .bool C], civilV (Y : Int) (M : Int) (D : Int) (Hh : Int) (Mi : Int) (S : Int) (Ns : Int) name off] w fun e w' => e = .returned (.string ⟨(Fs.wr (tmOf Y M D Hh Mi S Ns name off) ⟨17, T, N, C⟩).toArray⟩) ∧ Below w.heap.size w w' := by
  have y9 := CF.y9
  have d31 := CF.date.d31
  have m1 := CF.date.m1
  have m2 := CF.date.m2
  obtain ⟨h23, mi59, s59, ns9⟩ := CF.clock
  have o1 := CF.o1
  have o2 := CF.o2
  have hyd := Fs.yearDay_le CF.date
  have hwd : Fs.wday (Y : Int) M D ≤ 6 := by unfold Fs.wday; omega
  have h12 : Fs.hr12 Hh ≤ 12 := by unfold Fs.hr12; split <;> omega
  have hmn := monthName_3 m1 m2
  have hdn := dayName_3 hwd
  have HE : Fs.wr (tmOf Y M D Hh Mi S Ns name off) ⟨17, T, N, C⟩ = Fs.dg 1 Mi := by
    show Fs.wr _ _ = _
    show Fs.elem (tmOf Y M D Hh Mi S Ns name off) 1039 = _; exact Fs.dg_zero_one Mi
  rw [HE]
  have H0 := hide (fun w => Digits_any Mi 1 (by omega) (by omega) w)
  clear HE CF
  have b0 := ((Below.refl w.heap.size w).alloc (Nat.le_refl _) (Obj.cells #[.int .i64 17, .string ⟨T.toArray⟩, .int .i64 N, .bool C] 34)).alloc (by simp) (Obj.cells #[.int .i64 (Y : Int), .int .i64 (M : Int), .int .i64 (D : Int), .int .i64 (Hh : Int), .int .i64 (Mi : Int), .int .i64 (S : Int), .int .i64 (Ns : Int), .string ⟨name.toArray⟩, .int .i64 off] 25)
  unfold civilV at *
  go_enter Tryd.func52, Tryd.ntmps52
  go_wp2_with fail
  refine (H0.out _).mono ?_
  rintro e w1 ⟨rfl, hq1⟩
  have b1 := b0.trans (hq1.mono (by simp; omega))
  clear hq1
  go_wp2_with fail
  go_ret
  exact ⟨rfl, b1⟩
set_option maxRecDepth 100000 in
set_option maxHeartbeats 4000000 in
theorem written_18 {name : List UInt8} {off : Int} {Y M D Hh Mi S Ns : Nat} (CF : CivF Y M D Hh Mi S Ns name off Y M D Hh Mi S Ns) (T : List UInt8) (N : Int) (C : Bool) (w : World) :
    Calls Tryd.prog 52 #[.agg #[.int .i64 18, .string ⟨T.toArray⟩, .int .i64 N, .bool C], civilV (Y : Int) (M : Int) (D : Int) (Hh : Int) (Mi : Int) (S : Int) (Ns : Int) name off] w fun e w' => e = .returned (.string ⟨(Fs.wr (tmOf Y M D Hh Mi S Ns name off) ⟨18, T, N, C⟩).toArray⟩) ∧ Below w.heap.size w w' := by
  have y9 := CF.y9
  have d31 := CF.date.d31
  have m1 := CF.date.m1
  have m2 := CF.date.m2
  obtain ⟨h23, mi59, s59, ns9⟩ := CF.clock
  have o1 := CF.o1
  have o2 := CF.o2
  have hyd := Fs.yearDay_le CF.date
  have hwd : Fs.wday (Y : Int) M D ≤ 6 := by unfold Fs.wday; omega
  have h12 : Fs.hr12 Hh ≤ 12 := by unfold Fs.hr12; split <;> omega
  have hmn := monthName_3 m1 m2
  have hdn := dayName_3 hwd
  have HE : Fs.wr (tmOf Y M D Hh Mi S Ns name off) ⟨18, T, N, C⟩ = Fs.dg 2 Mi := by
    show Fs.wr _ _ = _
    rfl
  rw [HE]
  have H0 := hide (fun w => Digits_any Mi 2 (by omega) (by omega) w)
  clear HE CF
  have b0 := ((Below.refl w.heap.size w).alloc (Nat.le_refl _) (Obj.cells #[.int .i64 18, .string ⟨T.toArray⟩, .int .i64 N, .bool C] 34)).alloc (by simp) (Obj.cells #[.int .i64 (Y : Int), .int .i64 (M : Int), .int .i64 (D : Int), .int .i64 (Hh : Int), .int .i64 (Mi : Int), .int .i64 (S : Int), .int .i64 (Ns : Int), .string ⟨name.toArray⟩, .int .i64 off] 25)
  unfold civilV at *
  go_enter Tryd.func52, Tryd.ntmps52
  go_wp2_with fail
  refine (H0.out _).mono ?_
  rintro e w1 ⟨rfl, hq1⟩
  have b1 := b0.trans (hq1.mono (by simp; omega))
  clear hq1
  go_wp2_with fail
  go_ret
  exact ⟨rfl, b1⟩
set_option maxRecDepth 100000 in
set_option maxHeartbeats 4000000 in
theorem written_19 {name : List UInt8} {off : Int} {Y M D Hh Mi S Ns : Nat} (CF : CivF Y M D Hh Mi S Ns name off Y M D Hh Mi S Ns) (T : List UInt8) (N : Int) (C : Bool) (w : World) :
    Calls Tryd.prog 52 #[.agg #[.int .i64 19, .string ⟨T.toArray⟩, .int .i64 N, .bool C], civilV (Y : Int) (M : Int) (D : Int) (Hh : Int) (Mi : Int) (S : Int) (Ns : Int) name off] w fun e w' => e = .returned (.string ⟨(Fs.wr (tmOf Y M D Hh Mi S Ns name off) ⟨19, T, N, C⟩).toArray⟩) ∧ Below w.heap.size w w' := by
  have y9 := CF.y9
  have d31 := CF.date.d31
  have m1 := CF.date.m1
  have m2 := CF.date.m2
  obtain ⟨h23, mi59, s59, ns9⟩ := CF.clock
  have o1 := CF.o1
  have o2 := CF.o2
  have hyd := Fs.yearDay_le CF.date
  have hwd : Fs.wday (Y : Int) M D ≤ 6 := by unfold Fs.wday; omega
  have h12 : Fs.hr12 Hh ≤ 12 := by unfold Fs.hr12; split <;> omega
  have hmn := monthName_3 m1 m2
  have hdn := dayName_3 hwd
  have HE : Fs.wr (tmOf Y M D Hh Mi S Ns name off) ⟨19, T, N, C⟩ = Fs.dg 1 S := by
    show Fs.wr _ _ = _
    show Fs.elem (tmOf Y M D Hh Mi S Ns name off) 1041 = _; exact Fs.dg_zero_one S
  rw [HE]
  have H0 := hide (fun w => Digits_any S 1 (by omega) (by omega) w)
  clear HE CF
  have b0 := ((Below.refl w.heap.size w).alloc (Nat.le_refl _) (Obj.cells #[.int .i64 19, .string ⟨T.toArray⟩, .int .i64 N, .bool C] 34)).alloc (by simp) (Obj.cells #[.int .i64 (Y : Int), .int .i64 (M : Int), .int .i64 (D : Int), .int .i64 (Hh : Int), .int .i64 (Mi : Int), .int .i64 (S : Int), .int .i64 (Ns : Int), .string ⟨name.toArray⟩, .int .i64 off] 25)
  unfold civilV at *
  go_enter Tryd.func52, Tryd.ntmps52
  go_wp2_with fail
  refine (H0.out _).mono ?_
  rintro e w1 ⟨rfl, hq1⟩
  have b1 := b0.trans (hq1.mono (by simp; omega))
  clear hq1
  go_wp2_with fail
  go_ret
  exact ⟨rfl, b1⟩
set_option maxRecDepth 100000 in
set_option maxHeartbeats 4000000 in
theorem written_20 {name : List UInt8} {off : Int} {Y M D Hh Mi S Ns : Nat} (CF : CivF Y M D Hh Mi S Ns name off Y M D Hh Mi S Ns) (T : List UInt8) (N : Int) (C : Bool) (w : World) :
    Calls Tryd.prog 52 #[.agg #[.int .i64 20, .string ⟨T.toArray⟩, .int .i64 N, .bool C], civilV (Y : Int) (M : Int) (D : Int) (Hh : Int) (Mi : Int) (S : Int) (Ns : Int) name off] w fun e w' => e = .returned (.string ⟨(Fs.wr (tmOf Y M D Hh Mi S Ns name off) ⟨20, T, N, C⟩).toArray⟩) ∧ Below w.heap.size w w' := by
  have y9 := CF.y9
  have d31 := CF.date.d31
  have m1 := CF.date.m1
  have m2 := CF.date.m2
  obtain ⟨h23, mi59, s59, ns9⟩ := CF.clock
  have o1 := CF.o1
  have o2 := CF.o2
  have hyd := Fs.yearDay_le CF.date
  have hwd : Fs.wday (Y : Int) M D ≤ 6 := by unfold Fs.wday; omega
  have h12 : Fs.hr12 Hh ≤ 12 := by unfold Fs.hr12; split <;> omega
  have hmn := monthName_3 m1 m2
  have hdn := dayName_3 hwd
  have HE : Fs.wr (tmOf Y M D Hh Mi S Ns name off) ⟨20, T, N, C⟩ = Fs.dg 2 S := by
    show Fs.wr _ _ = _
    rfl
  rw [HE]
  have H0 := hide (fun w => Digits_any S 2 (by omega) (by omega) w)
  clear HE CF
  have b0 := ((Below.refl w.heap.size w).alloc (Nat.le_refl _) (Obj.cells #[.int .i64 20, .string ⟨T.toArray⟩, .int .i64 N, .bool C] 34)).alloc (by simp) (Obj.cells #[.int .i64 (Y : Int), .int .i64 (M : Int), .int .i64 (D : Int), .int .i64 (Hh : Int), .int .i64 (Mi : Int), .int .i64 (S : Int), .int .i64 (Ns : Int), .string ⟨name.toArray⟩, .int .i64 off] 25)
  unfold civilV at *
  go_enter Tryd.func52, Tryd.ntmps52
  go_wp2_with fail
  refine (H0.out _).mono ?_
  rintro e w1 ⟨rfl, hq1⟩
  have b1 := b0.trans (hq1.mono (by simp; omega))
  clear hq1
  go_wp2_with fail
  go_ret
  exact ⟨rfl, b1⟩
set_option maxRecDepth 100000 in
set_option maxHeartbeats 4000000 in
theorem written_21 {name : List UInt8} {off : Int} {Y M D Hh Mi S Ns : Nat} (CF : CivF Y M D Hh Mi S Ns name off Y M D Hh Mi S Ns) (T : List UInt8) (N : Int) (C : Bool) (w : World) :
    Calls Tryd.prog 52 #[.agg #[.int .i64 21, .string ⟨T.toArray⟩, .int .i64 N, .bool C], civilV (Y : Int) (M : Int) (D : Int) (Hh : Int) (Mi : Int) (S : Int) (Ns : Int) name off] w fun e w' => e = .returned (.string ⟨(Fs.wr (tmOf Y M D Hh Mi S Ns name off) ⟨21, T, N, C⟩).toArray⟩) ∧ Below w.heap.size w w' := by
  have y9 := CF.y9
  have d31 := CF.date.d31
  have m1 := CF.date.m1
  have m2 := CF.date.m2
  obtain ⟨h23, mi59, s59, ns9⟩ := CF.clock
  have o1 := CF.o1
  have o2 := CF.o2
  have hyd := Fs.yearDay_le CF.date
  have hwd : Fs.wday (Y : Int) M D ≤ 6 := by unfold Fs.wday; omega
  have h12 : Fs.hr12 Hh ≤ 12 := by unfold Fs.hr12; split <;> omega
  have hmn := monthName_3 m1 m2
  have hdn := dayName_3 hwd
  have HE : Fs.wr (tmOf Y M D Hh Mi S Ns name off) ⟨21, T, N, C⟩ = (if 12 ≤ Hh then [80, 77] else [65, 77] : List UInt8) := by
    show Fs.wr _ _ = _
    rfl
  rw [HE]
  have H0 := hide (fun w => half_any Hh w)
  generalize (if 12 ≤ Hh then [80, 77] else [65, 77] : List UInt8) = R at H0 ⊢
  clear HE CF
  have b0 := ((Below.refl w.heap.size w).alloc (Nat.le_refl _) (Obj.cells #[.int .i64 21, .string ⟨T.toArray⟩, .int .i64 N, .bool C] 34)).alloc (by simp) (Obj.cells #[.int .i64 (Y : Int), .int .i64 (M : Int), .int .i64 (D : Int), .int .i64 (Hh : Int), .int .i64 (Mi : Int), .int .i64 (S : Int), .int .i64 (Ns : Int), .string ⟨name.toArray⟩, .int .i64 off] 25)
  unfold civilV at *
  go_enter Tryd.func52, Tryd.ntmps52
  go_wp2_with fail
  refine (H0.out _).mono ?_
  rintro e w1 ⟨rfl, hq1⟩
  have b1 := b0.trans (hq1.below _)
  clear hq1
  go_wp2_with fail
  go_ret
  exact ⟨rfl, b1⟩
set_option maxRecDepth 100000 in
set_option maxHeartbeats 4000000 in
theorem written_32 {name : List UInt8} {off : Int} {Y M D Hh Mi S Ns : Nat} (CF : CivF Y M D Hh Mi S Ns name off Y M D Hh Mi S Ns) (T : List UInt8) (N : Int) (C : Bool) (w : World) :
    Calls Tryd.prog 52 #[.agg #[.int .i64 32, .string ⟨T.toArray⟩, .int .i64 N, .bool C], civilV (Y : Int) (M : Int) (D : Int) (Hh : Int) (Mi : Int) (S : Int) (Ns : Int) name off] w fun e w' => e = .returned (.string ⟨(Fs.wr (tmOf Y M D Hh Mi S Ns name off) ⟨32, T, N, C⟩).toArray⟩) ∧ Below w.heap.size w w' := by
  have y9 := CF.y9
  have d31 := CF.date.d31
  have m1 := CF.date.m1
  have m2 := CF.date.m2
  obtain ⟨h23, mi59, s59, ns9⟩ := CF.clock
  have o1 := CF.o1
  have o2 := CF.o2
  have hyd := Fs.yearDay_le CF.date
  have hwd : Fs.wday (Y : Int) M D ≤ 6 := by unfold Fs.wday; omega
  have h12 : Fs.hr12 Hh ≤ 12 := by unfold Fs.hr12; split <;> omega
  have hmn := monthName_3 m1 m2
  have hdn := dayName_3 hwd
  have HE : Fs.wr (tmOf Y M D Hh Mi S Ns name off) ⟨32, T, N, C⟩ = name := by
    show Fs.wr _ _ = _
    show Fs.elem _ 23 = _; simp [Fs.elem, tmOf, CF.n0]
  rw [HE]
  clear HE CF
  have b0 := ((Below.refl w.heap.size w).alloc (Nat.le_refl _) (Obj.cells #[.int .i64 32, .string ⟨T.toArray⟩, .int .i64 N, .bool C] 34)).alloc (by simp) (Obj.cells #[.int .i64 (Y : Int), .int .i64 (M : Int), .int .i64 (D : Int), .int .i64 (Hh : Int), .int .i64 (Mi : Int), .int .i64 (S : Int), .int .i64 (Ns : Int), .string ⟨name.toArray⟩, .int .i64 off] 25)
  unfold civilV at *
  go_enter Tryd.func52, Tryd.ntmps52
  go_wp2_with fail
  go_ret
  exact ⟨rfl, b0⟩
set_option maxRecDepth 100000 in
set_option maxHeartbeats 4000000 in
theorem written_22 {name : List UInt8} {off : Int} {Y M D Hh Mi S Ns : Nat} (CF : CivF Y M D Hh Mi S Ns name off Y M D Hh Mi S Ns) (T : List UInt8) (N : Int) (C : Bool) (w : World) :
    Calls Tryd.prog 52 #[.agg #[.int .i64 22, .string ⟨T.toArray⟩, .int .i64 N, .bool C], civilV (Y : Int) (M : Int) (D : Int) (Hh : Int) (Mi : Int) (S : Int) (Ns : Int) name off] w fun e w' => e = .returned (.string ⟨(Fs.wr (tmOf Y M D Hh Mi S Ns name off) ⟨22, T, N, C⟩).toArray⟩) ∧ Below w.heap.size w w' := by
  have y9 := CF.y9
  have d31 := CF.date.d31
  have m1 := CF.date.m1
  have m2 := CF.date.m2
  obtain ⟨h23, mi59, s59, ns9⟩ := CF.clock
  have o1 := CF.o1
  have o2 := CF.o2
  have hyd := Fs.yearDay_le CF.date
  have hwd : Fs.wday (Y : Int) M D ≤ 6 := by unfold Fs.wday; omega
  have h12 : Fs.hr12 Hh ≤ 12 := by unfold Fs.hr12; split <;> omega
  have hmn := monthName_3 m1 m2
  have hdn := dayName_3 hwd
  have HI := hide (fun w => isISO_any 22 w)
  have hI : Fs.isISO 22 = false := by decide
  rw [hI] at HI
  have b0 := ((Below.refl w.heap.size w).alloc (Nat.le_refl _) (Obj.cells #[.int .i64 22, .string ⟨T.toArray⟩, .int .i64 N, .bool C] 34)).alloc (by simp) (Obj.cells #[.int .i64 (Y : Int), .int .i64 (M : Int), .int .i64 (D : Int), .int .i64 (Hh : Int), .int .i64 (Mi : Int), .int .i64 (S : Int), .int .i64 (Ns : Int), .string ⟨name.toArray⟩, .int .i64 off] 25)
  have HE : Fs.wr (tmOf Y M D Hh Mi S Ns name off) ⟨22, T, N, C⟩ = Fs.offs off true false false := by
    show Fs.elem _ 29 = _
    simp [Fs.elem, tmOf]
  rw [HE]
  have HZ := hide (fun w => zoneText_22 off o1 o2 w)
  generalize Fs.offs off true false false = R at HZ ⊢
  skip
  clear HE CF
  unfold civilV at *
  go_enter Tryd.func52, Tryd.ntmps52
  go_wp2_with fail
  refine (HI.out _).mono ?_
  rintro e w1 ⟨rfl, n1, rfl⟩
  go_wp2_with fail
  refine (HZ.out _).mono ?_
  rintro e w2 ⟨rfl, hq⟩
  have b2 := (b0.trans (drewN_below _ _ n1)).trans (hq.mono (by simp; omega))
  clear hq
  go_wp2_with fail
  go_ret
  exact ⟨rfl, b2⟩
set_option maxRecDepth 100000 in
set_option maxHeartbeats 4000000 in
theorem written_23 {name : List UInt8} {off : Int} {Y M D Hh Mi S Ns : Nat} (CF : CivF Y M D Hh Mi S Ns name off Y M D Hh Mi S Ns) (T : List UInt8) (N : Int) (C : Bool) (w : World) :
    Calls Tryd.prog 52 #[.agg #[.int .i64 23, .string ⟨T.toArray⟩, .int .i64 N, .bool C], civilV (Y : Int) (M : Int) (D : Int) (Hh : Int) (Mi : Int) (S : Int) (Ns : Int) name off] w fun e w' => e = .returned (.string ⟨(Fs.wr (tmOf Y M D Hh Mi S Ns name off) ⟨23, T, N, C⟩).toArray⟩) ∧ Below w.heap.size w w' := by
  have y9 := CF.y9
  have d31 := CF.date.d31
  have m1 := CF.date.m1
  have m2 := CF.date.m2
  obtain ⟨h23, mi59, s59, ns9⟩ := CF.clock
  have o1 := CF.o1
  have o2 := CF.o2
  have hyd := Fs.yearDay_le CF.date
  have hwd : Fs.wday (Y : Int) M D ≤ 6 := by unfold Fs.wday; omega
  have h12 : Fs.hr12 Hh ≤ 12 := by unfold Fs.hr12; split <;> omega
  have hmn := monthName_3 m1 m2
  have hdn := dayName_3 hwd
  have HI := hide (fun w => isISO_any 23 w)
  have hI : Fs.isISO 23 = false := by decide
  rw [hI] at HI
  have b0 := ((Below.refl w.heap.size w).alloc (Nat.le_refl _) (Obj.cells #[.int .i64 23, .string ⟨T.toArray⟩, .int .i64 N, .bool C] 34)).alloc (by simp) (Obj.cells #[.int .i64 (Y : Int), .int .i64 (M : Int), .int .i64 (D : Int), .int .i64 (Hh : Int), .int .i64 (Mi : Int), .int .i64 (S : Int), .int .i64 (Ns : Int), .string ⟨name.toArray⟩, .int .i64 off] 25)
  have HE : Fs.wr (tmOf Y M D Hh Mi S Ns name off) ⟨23, T, N, C⟩ = Fs.offs off true false true := by
    show Fs.elem _ 32 = _
    simp [Fs.elem, tmOf]
  rw [HE]
  have HZ := hide (fun w => zoneText_23 off o1 o2 w)
  generalize Fs.offs off true false true = R at HZ ⊢
  skip
  clear HE CF
  unfold civilV at *
  go_enter Tryd.func52, Tryd.ntmps52
  go_wp2_with fail
  refine (HI.out _).mono ?_
  rintro e w1 ⟨rfl, n1, rfl⟩
  go_wp2_with fail
  refine (HZ.out _).mono ?_
  rintro e w2 ⟨rfl, hq⟩
  have b2 := (b0.trans (drewN_below _ _ n1)).trans (hq.mono (by simp; omega))
  clear hq
  go_wp2_with fail
  go_ret
  exact ⟨rfl, b2⟩
set_option maxRecDepth 100000 in
set_option maxHeartbeats 4000000 in
theorem written_24 {name : List UInt8} {off : Int} {Y M D Hh Mi S Ns : Nat} (CF : CivF Y M D Hh Mi S Ns name off Y M D Hh Mi S Ns) (T : List UInt8) (N : Int) (C : Bool) (w : World) :
    Calls Tryd.prog 52 #[.agg #[.int .i64 24, .string ⟨T.toArray⟩, .int .i64 N, .bool C], civilV (Y : Int) (M : Int) (D : Int) (Hh : Int) (Mi : Int) (S : Int) (Ns : Int) name off] w fun e w' => e = .returned (.string ⟨(Fs.wr (tmOf Y M D Hh Mi S Ns name off) ⟨24, T, N, C⟩).toArray⟩) ∧ Below w.heap.size w w' := by
  have y9 := CF.y9
  have d31 := CF.date.d31
  have m1 := CF.date.m1
  have m2 := CF.date.m2
  obtain ⟨h23, mi59, s59, ns9⟩ := CF.clock
  have o1 := CF.o1
  have o2 := CF.o2
  have hyd := Fs.yearDay_le CF.date
  have hwd : Fs.wday (Y : Int) M D ≤ 6 := by unfold Fs.wday; omega
  have h12 : Fs.hr12 Hh ≤ 12 := by unfold Fs.hr12; split <;> omega
  have hmn := monthName_3 m1 m2
  have hdn := dayName_3 hwd
  have HI := hide (fun w => isISO_any 24 w)
  have hI : Fs.isISO 24 = false := by decide
  rw [hI] at HI
  have b0 := ((Below.refl w.heap.size w).alloc (Nat.le_refl _) (Obj.cells #[.int .i64 24, .string ⟨T.toArray⟩, .int .i64 N, .bool C] 34)).alloc (by simp) (Obj.cells #[.int .i64 (Y : Int), .int .i64 (M : Int), .int .i64 (D : Int), .int .i64 (Hh : Int), .int .i64 (Mi : Int), .int .i64 (S : Int), .int .i64 (Ns : Int), .string ⟨name.toArray⟩, .int .i64 off] 25)
  have HE : Fs.wr (tmOf Y M D Hh Mi S Ns name off) ⟨24, T, N, C⟩ = Fs.offs off false false false := by
    show Fs.elem _ 31 = _
    simp [Fs.elem, tmOf]
  rw [HE]
  have HZ := hide (fun w => zoneText_24 off o1 o2 w)
  generalize Fs.offs off false false false = R at HZ ⊢
  skip
  clear HE CF
  unfold civilV at *
  go_enter Tryd.func52, Tryd.ntmps52
  go_wp2_with fail
  refine (HI.out _).mono ?_
  rintro e w1 ⟨rfl, n1, rfl⟩
  go_wp2_with fail
  refine (HZ.out _).mono ?_
  rintro e w2 ⟨rfl, hq⟩
  have b2 := (b0.trans (drewN_below _ _ n1)).trans (hq.mono (by simp; omega))
  clear hq
  go_wp2_with fail
  go_ret
  exact ⟨rfl, b2⟩
set_option maxRecDepth 100000 in
set_option maxHeartbeats 4000000 in
theorem written_25 {name : List UInt8} {off : Int} {Y M D Hh Mi S Ns : Nat} (CF : CivF Y M D Hh Mi S Ns name off Y M D Hh Mi S Ns) (T : List UInt8) (N : Int) (C : Bool) (w : World) :
    Calls Tryd.prog 52 #[.agg #[.int .i64 25, .string ⟨T.toArray⟩, .int .i64 N, .bool C], civilV (Y : Int) (M : Int) (D : Int) (Hh : Int) (Mi : Int) (S : Int) (Ns : Int) name off] w fun e w' => e = .returned (.string ⟨(Fs.wr (tmOf Y M D Hh Mi S Ns name off) ⟨25, T, N, C⟩).toArray⟩) ∧ Below w.heap.size w w' := by
  have y9 := CF.y9
  have d31 := CF.date.d31
  have m1 := CF.date.m1
  have m2 := CF.date.m2
  obtain ⟨h23, mi59, s59, ns9⟩ := CF.clock
  have o1 := CF.o1
  have o2 := CF.o2
  have hyd := Fs.yearDay_le CF.date
  have hwd : Fs.wday (Y : Int) M D ≤ 6 := by unfold Fs.wday; omega
  have h12 : Fs.hr12 Hh ≤ 12 := by unfold Fs.hr12; split <;> omega
  have hmn := monthName_3 m1 m2
  have hdn := dayName_3 hwd
  have HI := hide (fun w => isISO_any 25 w)
  have hI : Fs.isISO 25 = false := by decide
  rw [hI] at HI
  have b0 := ((Below.refl w.heap.size w).alloc (Nat.le_refl _) (Obj.cells #[.int .i64 25, .string ⟨T.toArray⟩, .int .i64 N, .bool C] 34)).alloc (by simp) (Obj.cells #[.int .i64 (Y : Int), .int .i64 (M : Int), .int .i64 (D : Int), .int .i64 (Hh : Int), .int .i64 (Mi : Int), .int .i64 (S : Int), .int .i64 (Ns : Int), .string ⟨name.toArray⟩, .int .i64 off] 25)
  have HE : Fs.wr (tmOf Y M D Hh Mi S Ns name off) ⟨25, T, N, C⟩ = Fs.offs off true true false := by
    show Fs.elem _ 30 = _
    simp [Fs.elem, tmOf]
  rw [HE]
  have HZ := hide (fun w => zoneText_25 off o1 o2 w)
  generalize Fs.offs off true true false = R at HZ ⊢
  skip
  clear HE CF
  unfold civilV at *
  go_enter Tryd.func52, Tryd.ntmps52
  go_wp2_with fail
  refine (HI.out _).mono ?_
  rintro e w1 ⟨rfl, n1, rfl⟩
  go_wp2_with fail
  refine (HZ.out _).mono ?_
  rintro e w2 ⟨rfl, hq⟩
  have b2 := (b0.trans (drewN_below _ _ n1)).trans (hq.mono (by simp; omega))
  clear hq
  go_wp2_with fail
  go_ret
  exact ⟨rfl, b2⟩
set_option maxRecDepth 100000 in
set_option maxHeartbeats 4000000 in
theorem written_26 {name : List UInt8} {off : Int} {Y M D Hh Mi S Ns : Nat} (CF : CivF Y M D Hh Mi S Ns name off Y M D Hh Mi S Ns) (T : List UInt8) (N : Int) (C : Bool) (w : World) :
    Calls Tryd.prog 52 #[.agg #[.int .i64 26, .string ⟨T.toArray⟩, .int .i64 N, .bool C], civilV (Y : Int) (M : Int) (D : Int) (Hh : Int) (Mi : Int) (S : Int) (Ns : Int) name off] w fun e w' => e = .returned (.string ⟨(Fs.wr (tmOf Y M D Hh Mi S Ns name off) ⟨26, T, N, C⟩).toArray⟩) ∧ Below w.heap.size w w' := by
  have y9 := CF.y9
  have d31 := CF.date.d31
  have m1 := CF.date.m1
  have m2 := CF.date.m2
  obtain ⟨h23, mi59, s59, ns9⟩ := CF.clock
  have o1 := CF.o1
  have o2 := CF.o2
  have hyd := Fs.yearDay_le CF.date
  have hwd : Fs.wday (Y : Int) M D ≤ 6 := by unfold Fs.wday; omega
  have h12 : Fs.hr12 Hh ≤ 12 := by unfold Fs.hr12; split <;> omega
  have hmn := monthName_3 m1 m2
  have hdn := dayName_3 hwd
  have HI := hide (fun w => isISO_any 26 w)
  have hI : Fs.isISO 26 = false := by decide
  rw [hI] at HI
  have b0 := ((Below.refl w.heap.size w).alloc (Nat.le_refl _) (Obj.cells #[.int .i64 26, .string ⟨T.toArray⟩, .int .i64 N, .bool C] 34)).alloc (by simp) (Obj.cells #[.int .i64 (Y : Int), .int .i64 (M : Int), .int .i64 (D : Int), .int .i64 (Hh : Int), .int .i64 (Mi : Int), .int .i64 (S : Int), .int .i64 (Ns : Int), .string ⟨name.toArray⟩, .int .i64 off] 25)
  have HE : Fs.wr (tmOf Y M D Hh Mi S Ns name off) ⟨26, T, N, C⟩ = Fs.offs off true true true := by
    show Fs.elem _ 33 = _
    simp [Fs.elem, tmOf]
  rw [HE]
  have HZ := hide (fun w => zoneText_26 off o1 o2 w)
  generalize Fs.offs off true true true = R at HZ ⊢
  skip
  clear HE CF
  unfold civilV at *
  go_enter Tryd.func52, Tryd.ntmps52
  go_wp2_with fail
  refine (HI.out _).mono ?_
  rintro e w1 ⟨rfl, n1, rfl⟩
  go_wp2_with fail
  refine (HZ.out _).mono ?_
  rintro e w2 ⟨rfl, hq⟩
  have b2 := (b0.trans (drewN_below _ _ n1)).trans (hq.mono (by simp; omega))
  clear hq
  go_wp2_with fail
  go_ret
  exact ⟨rfl, b2⟩
set_option maxRecDepth 100000 in
set_option maxHeartbeats 4000000 in
theorem written_27 {name : List UInt8} {off : Int} {Y M D Hh Mi S Ns : Nat} (CF : CivF Y M D Hh Mi S Ns name off Y M D Hh Mi S Ns) (T : List UInt8) (N : Int) (C : Bool) (w : World) :
    Calls Tryd.prog 52 #[.agg #[.int .i64 27, .string ⟨T.toArray⟩, .int .i64 N, .bool C], civilV (Y : Int) (M : Int) (D : Int) (Hh : Int) (Mi : Int) (S : Int) (Ns : Int) name off] w fun e w' => e = .returned (.string ⟨(Fs.wr (tmOf Y M D Hh Mi S Ns name off) ⟨27, T, N, C⟩).toArray⟩) ∧ Below w.heap.size w w' := by
  have y9 := CF.y9
  have d31 := CF.date.d31
  have m1 := CF.date.m1
  have m2 := CF.date.m2
  obtain ⟨h23, mi59, s59, ns9⟩ := CF.clock
  have o1 := CF.o1
  have o2 := CF.o2
  have hyd := Fs.yearDay_le CF.date
  have hwd : Fs.wday (Y : Int) M D ≤ 6 := by unfold Fs.wday; omega
  have h12 : Fs.hr12 Hh ≤ 12 := by unfold Fs.hr12; split <;> omega
  have hmn := monthName_3 m1 m2
  have hdn := dayName_3 hwd
  have HI := hide (fun w => isISO_any 27 w)
  have hI : Fs.isISO 27 = true := by decide
  rw [hI] at HI
  have b0 := ((Below.refl w.heap.size w).alloc (Nat.le_refl _) (Obj.cells #[.int .i64 27, .string ⟨T.toArray⟩, .int .i64 N, .bool C] 34)).alloc (by simp) (Obj.cells #[.int .i64 (Y : Int), .int .i64 (M : Int), .int .i64 (D : Int), .int .i64 (Hh : Int), .int .i64 (Mi : Int), .int .i64 (S : Int), .int .i64 (Ns : Int), .string ⟨name.toArray⟩, .int .i64 off] 25)
  by_cases h0 : off = 0
  · have HE : Fs.wr (tmOf Y M D Hh Mi S Ns name off) ⟨27, T, N, C⟩ = [90] := by
      show Fs.elem _ 24 = _
      simp [Fs.elem, tmOf, h0]
    rw [HE]
    subst h0
    clear HE CF
    unfold civilV at *
    go_enter Tryd.func52, Tryd.ntmps52
    go_wp2_with fail
    refine (HI.out _).mono ?_
    rintro e w1 ⟨rfl, n1, rfl⟩
    go_wp2_with fail
    go_ret
    exact ⟨rfl, b0.trans (drewN_below _ _ n1)⟩
  ·
    have HE : Fs.wr (tmOf Y M D Hh Mi S Ns name off) ⟨27, T, N, C⟩ = Fs.offs off true false false := by
      show Fs.elem _ 24 = _
      simp [Fs.elem, tmOf, h0]
    rw [HE]
    have HZ := hide (fun w => zoneText_27 off o1 o2 w)
    generalize Fs.offs off true false false = R at HZ ⊢
    have e0 : (off == 0) = false := by rw [beq_eq_false_iff_ne]; exact h0
    clear HE CF h0
    unfold civilV at *
    go_enter Tryd.func52, Tryd.ntmps52
    go_wp2_with fail
    refine (HI.out _).mono ?_
    rintro e w1 ⟨rfl, n1, rfl⟩
    go_wp2_with fail
    refine (HZ.out _).mono ?_
    rintro e w2 ⟨rfl, hq⟩
    have b2 := (b0.trans (drewN_below _ _ n1)).trans (hq.mono (by simp; omega))
    clear hq
    go_wp2_with fail
    go_ret
    exact ⟨rfl, b2⟩
set_option maxRecDepth 100000 in
set_option maxHeartbeats 4000000 in
theorem written_28 {name : List UInt8} {off : Int} {Y M D Hh Mi S Ns : Nat} (CF : CivF Y M D Hh Mi S Ns name off Y M D Hh Mi S Ns) (T : List UInt8) (N : Int) (C : Bool) (w : World) :
    Calls Tryd.prog 52 #[.agg #[.int .i64 28, .string ⟨T.toArray⟩, .int .i64 N, .bool C], civilV (Y : Int) (M : Int) (D : Int) (Hh : Int) (Mi : Int) (S : Int) (Ns : Int) name off] w fun e w' => e = .returned (.string ⟨(Fs.wr (tmOf Y M D Hh Mi S Ns name off) ⟨28, T, N, C⟩).toArray⟩) ∧ Below w.heap.size w w' := by
  have y9 := CF.y9
  have d31 := CF.date.d31
  have m1 := CF.date.m1
  have m2 := CF.date.m2
  obtain ⟨h23, mi59, s59, ns9⟩ := CF.clock
  have o1 := CF.o1
  have o2 := CF.o2
  have hyd := Fs.yearDay_le CF.date
  have hwd : Fs.wday (Y : Int) M D ≤ 6 := by unfold Fs.wday; omega
  have h12 : Fs.hr12 Hh ≤ 12 := by unfold Fs.hr12; split <;> omega
  have hmn := monthName_3 m1 m2
  have hdn := dayName_3 hwd
  have HI := hide (fun w => isISO_any 28 w)
  have hI : Fs.isISO 28 = true := by decide
  rw [hI] at HI
  have b0 := ((Below.refl w.heap.size w).alloc (Nat.le_refl _) (Obj.cells #[.int .i64 28, .string ⟨T.toArray⟩, .int .i64 N, .bool C] 34)).alloc (by simp) (Obj.cells #[.int .i64 (Y : Int), .int .i64 (M : Int), .int .i64 (D : Int), .int .i64 (Hh : Int), .int .i64 (Mi : Int), .int .i64 (S : Int), .int .i64 (Ns : Int), .string ⟨name.toArray⟩, .int .i64 off] 25)
  by_cases h0 : off = 0
  · have HE : Fs.wr (tmOf Y M D Hh Mi S Ns name off) ⟨28, T, N, C⟩ = [90] := by
      show Fs.elem _ 27 = _
      simp [Fs.elem, tmOf, h0]
    rw [HE]
    subst h0
    clear HE CF
    unfold civilV at *
    go_enter Tryd.func52, Tryd.ntmps52
    go_wp2_with fail
    refine (HI.out _).mono ?_
    rintro e w1 ⟨rfl, n1, rfl⟩
    go_wp2_with fail
    go_ret
    exact ⟨rfl, b0.trans (drewN_below _ _ n1)⟩
  ·
    have HE : Fs.wr (tmOf Y M D Hh Mi S Ns name off) ⟨28, T, N, C⟩ = Fs.offs off true false true := by
      show Fs.elem _ 27 = _
      simp [Fs.elem, tmOf, h0]
    rw [HE]
    have HZ := hide (fun w => zoneText_28 off o1 o2 w)
    generalize Fs.offs off true false true = R at HZ ⊢
    have e0 : (off == 0) = false := by rw [beq_eq_false_iff_ne]; exact h0
    clear HE CF h0
    unfold civilV at *
    go_enter Tryd.func52, Tryd.ntmps52
    go_wp2_with fail
    refine (HI.out _).mono ?_
    rintro e w1 ⟨rfl, n1, rfl⟩
    go_wp2_with fail
    refine (HZ.out _).mono ?_
    rintro e w2 ⟨rfl, hq⟩
    have b2 := (b0.trans (drewN_below _ _ n1)).trans (hq.mono (by simp; omega))
    clear hq
    go_wp2_with fail
    go_ret
    exact ⟨rfl, b2⟩
set_option maxRecDepth 100000 in
set_option maxHeartbeats 4000000 in
theorem written_29 {name : List UInt8} {off : Int} {Y M D Hh Mi S Ns : Nat} (CF : CivF Y M D Hh Mi S Ns name off Y M D Hh Mi S Ns) (T : List UInt8) (N : Int) (C : Bool) (w : World) :
    Calls Tryd.prog 52 #[.agg #[.int .i64 29, .string ⟨T.toArray⟩, .int .i64 N, .bool C], civilV (Y : Int) (M : Int) (D : Int) (Hh : Int) (Mi : Int) (S : Int) (Ns : Int) name off] w fun e w' => e = .returned (.string ⟨(Fs.wr (tmOf Y M D Hh Mi S Ns name off) ⟨29, T, N, C⟩).toArray⟩) ∧ Below w.heap.size w w' := by
  have y9 := CF.y9
  have d31 := CF.date.d31
  have m1 := CF.date.m1
  have m2 := CF.date.m2
  obtain ⟨h23, mi59, s59, ns9⟩ := CF.clock
  have o1 := CF.o1
  have o2 := CF.o2
  have hyd := Fs.yearDay_le CF.date
  have hwd : Fs.wday (Y : Int) M D ≤ 6 := by unfold Fs.wday; omega
  have h12 : Fs.hr12 Hh ≤ 12 := by unfold Fs.hr12; split <;> omega
  have hmn := monthName_3 m1 m2
  have hdn := dayName_3 hwd
  have HI := hide (fun w => isISO_any 29 w)
  have hI : Fs.isISO 29 = true := by decide
  rw [hI] at HI
  have b0 := ((Below.refl w.heap.size w).alloc (Nat.le_refl _) (Obj.cells #[.int .i64 29, .string ⟨T.toArray⟩, .int .i64 N, .bool C] 34)).alloc (by simp) (Obj.cells #[.int .i64 (Y : Int), .int .i64 (M : Int), .int .i64 (D : Int), .int .i64 (Hh : Int), .int .i64 (Mi : Int), .int .i64 (S : Int), .int .i64 (Ns : Int), .string ⟨name.toArray⟩, .int .i64 off] 25)
  by_cases h0 : off = 0
  · have HE : Fs.wr (tmOf Y M D Hh Mi S Ns name off) ⟨29, T, N, C⟩ = [90] := by
      show Fs.elem _ 26 = _
      simp [Fs.elem, tmOf, h0]
    rw [HE]
    subst h0
    clear HE CF
    unfold civilV at *
    go_enter Tryd.func52, Tryd.ntmps52
    go_wp2_with fail
    refine (HI.out _).mono ?_
    rintro e w1 ⟨rfl, n1, rfl⟩
    go_wp2_with fail
    go_ret
    exact ⟨rfl, b0.trans (drewN_below _ _ n1)⟩
  ·
    have HE : Fs.wr (tmOf Y M D Hh Mi S Ns name off) ⟨29, T, N, C⟩ = Fs.offs off false false false := by
      show Fs.elem _ 26 = _
      simp [Fs.elem, tmOf, h0]
    rw [HE]
    have HZ := hide (fun w => zoneText_29 off o1 o2 w)
    generalize Fs.offs off false false false = R at HZ ⊢
    have e0 : (off == 0) = false := by rw [beq_eq_false_iff_ne]; exact h0
    clear HE CF h0
    unfold civilV at *
    go_enter Tryd.func52, Tryd.ntmps52
    go_wp2_with fail
    refine (HI.out _).mono ?_
    rintro e w1 ⟨rfl, n1, rfl⟩
    go_wp2_with fail
    refine (HZ.out _).mono ?_
    rintro e w2 ⟨rfl, hq⟩
    have b2 := (b0.trans (drewN_below _ _ n1)).trans (hq.mono (by simp; omega))
    clear hq
    go_wp2_with fail
    go_ret
    exact ⟨rfl, b2⟩
set_option maxRecDepth 100000 in
set_option maxHeartbeats 4000000 in
theorem written_30 {name : List UInt8} {off : Int} {Y M D Hh Mi S Ns : Nat} (CF : CivF Y M D Hh Mi S Ns name off Y M D Hh Mi S Ns) (T : List UInt8) (N : Int) (C : Bool) (w : World) :
    Calls Tryd.prog 52 #[.agg #[.int .i64 30, .string ⟨T.toArray⟩, .int .i64 N, .bool C], civilV (Y : Int) (M : Int) (D : Int) (Hh : Int) (Mi : Int) (S : Int) (Ns : Int) name off] w fun e w' => e = .returned (.string ⟨(Fs.wr (tmOf Y M D Hh Mi S Ns name off) ⟨30, T, N, C⟩).toArray⟩) ∧ Below w.heap.size w w' := by
  have y9 := CF.y9
  have d31 := CF.date.d31
  have m1 := CF.date.m1
  have m2 := CF.date.m2
  obtain ⟨h23, mi59, s59, ns9⟩ := CF.clock
  have o1 := CF.o1
  have o2 := CF.o2
  have hyd := Fs.yearDay_le CF.date
  have hwd : Fs.wday (Y : Int) M D ≤ 6 := by unfold Fs.wday; omega
  have h12 : Fs.hr12 Hh ≤ 12 := by unfold Fs.hr12; split <;> omega
  have hmn := monthName_3 m1 m2
  have hdn := dayName_3 hwd
  have HI := hide (fun w => isISO_any 30 w)
  have hI : Fs.isISO 30 = true := by decide
  rw [hI] at HI
  have b0 := ((Below.refl w.heap.size w).alloc (Nat.le_refl _) (Obj.cells #[.int .i64 30, .string ⟨T.toArray⟩, .int .i64 N, .bool C] 34)).alloc (by simp) (Obj.cells #[.int .i64 (Y : Int), .int .i64 (M : Int), .int .i64 (D : Int), .int .i64 (Hh : Int), .int .i64 (Mi : Int), .int .i64 (S : Int), .int .i64 (Ns : Int), .string ⟨name.toArray⟩, .int .i64 off] 25)
  by_cases h0 : off = 0
  · have HE : Fs.wr (tmOf Y M D Hh Mi S Ns name off) ⟨30, T, N, C⟩ = [90] := by
      show Fs.elem _ 25 = _
      simp [Fs.elem, tmOf, h0]
    rw [HE]
    subst h0
    clear HE CF
    unfold civilV at *
    go_enter Tryd.func52, Tryd.ntmps52
    go_wp2_with fail
    refine (HI.out _).mono ?_
    rintro e w1 ⟨rfl, n1, rfl⟩
    go_wp2_with fail
    go_ret
    exact ⟨rfl, b0.trans (drewN_below _ _ n1)⟩
  ·
    have HE : Fs.wr (tmOf Y M D Hh Mi S Ns name off) ⟨30, T, N, C⟩ = Fs.offs off true true false := by
      show Fs.elem _ 25 = _
      simp [Fs.elem, tmOf, h0]
    rw [HE]
    have HZ := hide (fun w => zoneText_30 off o1 o2 w)
    generalize Fs.offs off true true false = R at HZ ⊢
    have e0 : (off == 0) = false := by rw [beq_eq_false_iff_ne]; exact h0
    clear HE CF h0
    unfold civilV at *
    go_enter Tryd.func52, Tryd.ntmps52
    go_wp2_with fail
    refine (HI.out _).mono ?_
    rintro e w1 ⟨rfl, n1, rfl⟩
    go_wp2_with fail
    refine (HZ.out _).mono ?_
    rintro e w2 ⟨rfl, hq⟩
    have b2 := (b0.trans (drewN_below _ _ n1)).trans (hq.mono (by simp; omega))
    clear hq
    go_wp2_with fail
    go_ret
    exact ⟨rfl, b2⟩
set_option maxRecDepth 100000 in
set_option maxHeartbeats 4000000 in
theorem written_31 {name : List UInt8} {off : Int} {Y M D Hh Mi S Ns : Nat} (CF : CivF Y M D Hh Mi S Ns name off Y M D Hh Mi S Ns) (T : List UInt8) (N : Int) (C : Bool) (w : World) :
    Calls Tryd.prog 52 #[.agg #[.int .i64 31, .string ⟨T.toArray⟩, .int .i64 N, .bool C], civilV (Y : Int) (M : Int) (D : Int) (Hh : Int) (Mi : Int) (S : Int) (Ns : Int) name off] w fun e w' => e = .returned (.string ⟨(Fs.wr (tmOf Y M D Hh Mi S Ns name off) ⟨31, T, N, C⟩).toArray⟩) ∧ Below w.heap.size w w' := by
  have y9 := CF.y9
  have d31 := CF.date.d31
  have m1 := CF.date.m1
  have m2 := CF.date.m2
  obtain ⟨h23, mi59, s59, ns9⟩ := CF.clock
  have o1 := CF.o1
  have o2 := CF.o2
  have hyd := Fs.yearDay_le CF.date
  have hwd : Fs.wday (Y : Int) M D ≤ 6 := by unfold Fs.wday; omega
  have h12 : Fs.hr12 Hh ≤ 12 := by unfold Fs.hr12; split <;> omega
  have hmn := monthName_3 m1 m2
  have hdn := dayName_3 hwd
  have HI := hide (fun w => isISO_any 31 w)
  have hI : Fs.isISO 31 = true := by decide
  rw [hI] at HI
  have b0 := ((Below.refl w.heap.size w).alloc (Nat.le_refl _) (Obj.cells #[.int .i64 31, .string ⟨T.toArray⟩, .int .i64 N, .bool C] 34)).alloc (by simp) (Obj.cells #[.int .i64 (Y : Int), .int .i64 (M : Int), .int .i64 (D : Int), .int .i64 (Hh : Int), .int .i64 (Mi : Int), .int .i64 (S : Int), .int .i64 (Ns : Int), .string ⟨name.toArray⟩, .int .i64 off] 25)
  by_cases h0 : off = 0
  · have HE : Fs.wr (tmOf Y M D Hh Mi S Ns name off) ⟨31, T, N, C⟩ = [90] := by
      show Fs.elem _ 28 = _
      simp [Fs.elem, tmOf, h0]
    rw [HE]
    subst h0
    clear HE CF
    unfold civilV at *
    go_enter Tryd.func52, Tryd.ntmps52
    go_wp2_with fail
    refine (HI.out _).mono ?_
    rintro e w1 ⟨rfl, n1, rfl⟩
    go_wp2_with fail
    go_ret
    exact ⟨rfl, b0.trans (drewN_below _ _ n1)⟩
  ·
    have HE : Fs.wr (tmOf Y M D Hh Mi S Ns name off) ⟨31, T, N, C⟩ = Fs.offs off true true true := by
      show Fs.elem _ 28 = _
      simp [Fs.elem, tmOf, h0]
    rw [HE]
    have HZ := hide (fun w => zoneText_31 off o1 o2 w)
    generalize Fs.offs off true true true = R at HZ ⊢
    have e0 : (off == 0) = false := by rw [beq_eq_false_iff_ne]; exact h0
    clear HE CF h0
    unfold civilV at *
    go_enter Tryd.func52, Tryd.ntmps52
    go_wp2_with fail
    refine (HI.out _).mono ?_
    rintro e w1 ⟨rfl, n1, rfl⟩
    go_wp2_with fail
    refine (HZ.out _).mono ?_
    rintro e w2 ⟨rfl, hq⟩
    have b2 := (b0.trans (drewN_below _ _ n1)).trans (hq.mono (by simp; omega))
    clear hq
    go_wp2_with fail
    go_ret
    exact ⟨rfl, b2⟩
set_option maxRecDepth 100000 in
set_option maxHeartbeats 4000000 in
theorem written_33 {name : List UInt8} {off : Int} {Y M D Hh Mi S Ns : Nat} (CF : CivF Y M D Hh Mi S Ns name off Y M D Hh Mi S Ns) (T : List UInt8) (N : Nat) (n1 : 1 ≤ N) (n9 : N ≤ 9) (C : Bool) (w : World) :
    Calls Tryd.prog 52 #[.agg #[.int .i64 33, .string ⟨T.toArray⟩, .int .i64 (N : Nat), .bool C], civilV (Y : Int) (M : Int) (D : Int) (Hh : Int) (Mi : Int) (S : Int) (Ns : Int) name off] w fun e w' => e = .returned (.string ⟨(Fs.wr (tmOf Y M D Hh Mi S Ns name off) ⟨33, T, (N : Int), C⟩).toArray⟩) ∧ Below w.heap.size w w' := by
  have y9 := CF.y9
  have d31 := CF.date.d31
  have m1 := CF.date.m1
  have m2 := CF.date.m2
  obtain ⟨h23, mi59, s59, ns9⟩ := CF.clock
  have o1 := CF.o1
  have o2 := CF.o2
  have hyd := Fs.yearDay_le CF.date
  have hwd : Fs.wday (Y : Int) M D ≤ 6 := by unfold Fs.wday; omega
  have h12 : Fs.hr12 Hh ≤ 12 := by unfold Fs.hr12; split <;> omega
  have hmn := monthName_3 m1 m2
  have hdn := dayName_3 hwd
  obtain ⟨m, hm, hm2⟩ : ∃ m, Fs.markB C = [m] ∧ (m = 46 ∨ m = 44) := by cases C <;> simp [Fs.markB]
  have HE : Fs.wr (tmOf Y M D Hh Mi S Ns name off) ⟨33, T, (N : Int), C⟩ = Fs.nanoT false N m Ns := by
    have hc : Fs.codeOf ⟨33, T, (N : Int), C⟩ = Fs.frac 34 N m := by
      cases C
      · obtain rfl : m = 46 := by simpa [Fs.markB] using hm.symm
        simp [Fs.codeOf]
      · obtain rfl : m = 44 := by simpa [Fs.markB] using hm.symm
        simp [Fs.codeOf]
    show Fs.elem _ _ = _
    rw [hc]
    exact Fs.frac_elem (tmOf Y M D Hh Mi S Ns name off) 34 (by decide) N (by omega) m hm2
  rw [HE]
  have H0 := hide (fun w => Fraction_any Ns N ns9 n1 n9 C m hm w)
  generalize Fs.nanoT false N m Ns = R at H0 ⊢
  clear HE CF hm hm2
  have b0 := ((Below.refl w.heap.size w).alloc (Nat.le_refl _) (Obj.cells #[.int .i64 33, .string ⟨T.toArray⟩, .int .i64 (N : Nat), .bool C] 34)).alloc (by simp) (Obj.cells #[.int .i64 (Y : Int), .int .i64 (M : Int), .int .i64 (D : Int), .int .i64 (Hh : Int), .int .i64 (Mi : Int), .int .i64 (S : Int), .int .i64 (Ns : Int), .string ⟨name.toArray⟩, .int .i64 off] 25)
  unfold civilV at *
  go_enter Tryd.func52, Tryd.ntmps52
  go_wp2_with fail
  refine (H0.out _).mono ?_
  rintro e w1 ⟨rfl, hq⟩
  have b1 := b0.trans (hq.mono (by simp; omega))
  clear hq
  go_wp2_with fail
  go_ret
  exact ⟨rfl, b1⟩
set_option maxRecDepth 100000 in
set_option maxHeartbeats 4000000 in
theorem written_34 {name : List UInt8} {off : Int} {Y M D Hh Mi S Ns : Nat} (CF : CivF Y M D Hh Mi S Ns name off Y M D Hh Mi S Ns) (T : List UInt8) (N : Nat) (n1 : 1 ≤ N) (n9 : N ≤ 9) (C : Bool) (w : World) :
    Calls Tryd.prog 52 #[.agg #[.int .i64 34, .string ⟨T.toArray⟩, .int .i64 (N : Nat), .bool C], civilV (Y : Int) (M : Int) (D : Int) (Hh : Int) (Mi : Int) (S : Int) (Ns : Int) name off] w fun e w' => e = .returned (.string ⟨(Fs.wr (tmOf Y M D Hh Mi S Ns name off) ⟨34, T, (N : Int), C⟩).toArray⟩) ∧ Below w.heap.size w w' := by
  have y9 := CF.y9
  have d31 := CF.date.d31
  have m1 := CF.date.m1
  have m2 := CF.date.m2
  obtain ⟨h23, mi59, s59, ns9⟩ := CF.clock
  have o1 := CF.o1
  have o2 := CF.o2
  have hyd := Fs.yearDay_le CF.date
  have hwd : Fs.wday (Y : Int) M D ≤ 6 := by unfold Fs.wday; omega
  have h12 : Fs.hr12 Hh ≤ 12 := by unfold Fs.hr12; split <;> omega
  have hmn := monthName_3 m1 m2
  have hdn := dayName_3 hwd
  obtain ⟨m, hm, hm2⟩ : ∃ m, Fs.markB C = [m] ∧ (m = 46 ∨ m = 44) := by cases C <;> simp [Fs.markB]
  have HE : Fs.wr (tmOf Y M D Hh Mi S Ns name off) ⟨34, T, (N : Int), C⟩ = Fs.nanoT true N m Ns := by
    have hc : Fs.codeOf ⟨34, T, (N : Int), C⟩ = Fs.frac 35 N m := by
      cases C
      · obtain rfl : m = 46 := by simpa [Fs.markB] using hm.symm
        simp [Fs.codeOf]
      · obtain rfl : m = 44 := by simpa [Fs.markB] using hm.symm
        simp [Fs.codeOf]
    show Fs.elem _ _ = _
    rw [hc]
    exact Fs.frac_elem (tmOf Y M D Hh Mi S Ns name off) 35 (by decide) N (by omega) m hm2
  rw [HE]
  have H0 := hide (fun w => Trimmed_any Ns N ns9 n1 n9 C m hm w)
  generalize Fs.nanoT true N m Ns = R at H0 ⊢
  clear HE CF hm hm2
  have b0 := ((Below.refl w.heap.size w).alloc (Nat.le_refl _) (Obj.cells #[.int .i64 34, .string ⟨T.toArray⟩, .int .i64 (N : Nat), .bool C] 34)).alloc (by simp) (Obj.cells #[.int .i64 (Y : Int), .int .i64 (M : Int), .int .i64 (D : Int), .int .i64 (Hh : Int), .int .i64 (Mi : Int), .int .i64 (S : Int), .int .i64 (Ns : Int), .string ⟨name.toArray⟩, .int .i64 off] 25)
  unfold civilV at *
  go_enter Tryd.func52, Tryd.ntmps52
  go_wp2_with fail
  refine (H0.out _).mono ?_
  rintro e w1 ⟨rfl, hq⟩
  have b1 := b0.trans (hq.mono (by simp; omega))
  clear hq
  go_wp2_with fail
  go_ret
  exact ⟨rfl, b1⟩
set_option maxRecDepth 100000 in
set_option maxHeartbeats 4000000 in
theorem written_0 {name : List UInt8} {off : Int} {Y M D Hh Mi S Ns : Nat} (CF : CivF Y M D Hh Mi S Ns name off Y M D Hh Mi S Ns) (T : List UInt8) (N : Int) (C : Bool) (w : World) :
    Calls Tryd.prog 52 #[.agg #[.int .i64 0, .string ⟨T.toArray⟩, .int .i64 N, .bool C], civilV (Y : Int) (M : Int) (D : Int) (Hh : Int) (Mi : Int) (S : Int) (Ns : Int) name off] w fun e w' => e = .returned (.string ⟨(Fs.wr (tmOf Y M D Hh Mi S Ns name off) ⟨0, T, N, C⟩).toArray⟩) ∧ Below w.heap.size w w' := by
  have HE : Fs.wr (tmOf Y M D Hh Mi S Ns name off) ⟨0, T, N, C⟩ = T := rfl
  rw [HE]
  clear HE CF
  have b0 := ((Below.refl w.heap.size w).alloc (Nat.le_refl _) (Obj.cells #[.int .i64 0, .string ⟨T.toArray⟩, .int .i64 N, .bool C] 34)).alloc (by simp) (Obj.cells #[.int .i64 (Y : Int), .int .i64 (M : Int), .int .i64 (D : Int), .int .i64 (Hh : Int), .int .i64 (Mi : Int), .int .i64 (S : Int), .int .i64 (Ns : Int), .string ⟨name.toArray⟩, .int .i64 off] 25)
  unfold civilV at *
  go_enter Tryd.func52, Tryd.ntmps52
  go_wp2_with fail
  go_ret
  exact ⟨rfl, b0⟩
/-- the pieces that 'written' takes: those that are ok, and any text -/
def wrOk (p : Fs.Piece) : Prop := p.kind = 0 ∨ Fs.pieceOk p = true
theorem written_any {name : List UInt8} {off : Int} {Y M D Hh Mi S Ns : Nat} (CF : CivF Y M D Hh Mi S Ns name off Y M D Hh Mi S Ns) (p : Fs.Piece) (hp : wrOk p) (w : World) :
    Calls Tryd.prog 52 #[.agg #[.int .i64 p.kind, .string ⟨p.text.toArray⟩, .int .i64 p.n, .bool p.comma], civilV (Y : Int) (M : Int) (D : Int) (Hh : Int) (Mi : Int) (S : Int) (Ns : Int) name off] w fun e w' => e = .returned (.string ⟨(Fs.wr (tmOf Y M D Hh Mi S Ns name off) p).toArray⟩) ∧ Below w.heap.size w w' := by
  obtain ⟨K, T, N, C⟩ := p
  by_cases h0 : K = 0
  · subst h0
    exact written_0 CF T N C w
  have hp : Fs.pieceOk ⟨K, T, N, C⟩ = true := by
    rcases hp with h | h
    · exact absurd h h0
    · exact h
  by_cases h3 : Fs.isFraction K = true
  · have hn : 1 ≤ N ∧ N ≤ 9 := (show T = [] ∧ 1 ≤ N ∧ N ≤ 9 by simpa [Fs.pieceOk, h0, h3, Fs.within] using hp).2
    obtain ⟨n, rfl⟩ : ∃ n : Nat, N = (n : Int) := ⟨N.toNat, by omega⟩
    have hk4 : K = 33 ∨ K = 34 := by simpa [Fs.isFraction] using h3
    rcases hk4 with rfl | rfl
    · exact written_33 CF T n (by omega) (by omega) C w
    · exact written_34 CF T n (by omega) (by omega) C w
  · have hw : 1 ≤ K ∧ K ≤ 34 := by
      simp [Fs.pieceOk, h0, h3, Fs.within] at hp
      omega
    simp [Fs.isFraction] at h3
    have hK : K = 1 ∨ K = 2 ∨ K = 3 ∨ K = 4 ∨ K = 5 ∨ K = 6 ∨ K = 7 ∨ K = 8 ∨ K = 9 ∨ K = 10 ∨ K = 11 ∨ K = 12 ∨ K = 13 ∨ K = 14 ∨ K = 15 ∨ K = 16 ∨ K = 17 ∨ K = 18 ∨ K = 19 ∨ K = 20 ∨ K = 21 ∨ K = 22 ∨ K = 23 ∨ K = 24 ∨ K = 25 ∨ K = 26 ∨ K = 27 ∨ K = 28 ∨ K = 29 ∨ K = 30 ∨ K = 31 ∨ K = 32 := by omega
    rcases hK with rfl | rfl | rfl | rfl | rfl | rfl | rfl | rfl | rfl | rfl | rfl | rfl | rfl | rfl | rfl | rfl | rfl | rfl | rfl | rfl | rfl | rfl | rfl | rfl | rfl | rfl | rfl | rfl | rfl | rfl | rfl | rfl
    · exact written_1 CF T N C w
    · exact written_2 CF T N C w
    · exact written_3 CF T N C w
    · exact written_4 CF T N C w
    · exact written_5 CF T N C w
    · exact written_6 CF T N C w
    · exact written_7 CF T N C w
    · exact written_8 CF T N C w
    · exact written_9 CF T N C w
    · exact written_10 CF T N C w
    · exact written_11 CF T N C w
    · exact written_12 CF T N C w
    · exact written_13 CF T N C w
    · exact written_14 CF T N C w
    · exact written_15 CF T N C w
    · exact written_16 CF T N C w
    · exact written_17 CF T N C w
    · exact written_18 CF T N C w
    · exact written_19 CF T N C w
    · exact written_20 CF T N C w
    · exact written_21 CF T N C w
    · exact written_22 CF T N C w
    · exact written_23 CF T N C w
    · exact written_24 CF T N C w
    · exact written_25 CF T N C w
    · exact written_26 CF T N C w
    · exact written_27 CF T N C w
    · exact written_28 CF T N C w
    · exact written_29 CF T N C w
    · exact written_30 CF T N C w
    · exact written_31 CF T N C w
    · exact written_32 CF T N C w
end Go.Proofs.YtjkfjlifcilejaaDoor

/-
  WALKS, the reference's Written and Fits; the pieces of RFC 3339.
-/
namespace Go.Proofs.YtjkfjlifcilejaaDoor
open Go.RowKit
set_option linter.unusedVariables false
set_option linter.unusedSimpArgs false
attribute [local go_sem] ByteArray.extract_mk get_mk ByteArray.toList_mk ByteArray.mk_append_mk take_drop_len

theorem CCell.block {w : World} {b : Nat} {y m d h mi s ns : Int} {name : List UInt8} {off : Int} (H : CCell w b y m d h mi s ns name off) : b < w.heap.size := cell_lt H.c0
/-- what a round of 'Written' carries -/
structure WrI (w : World) (H b off0 : Nat) (p : Fs.Piece) (Y M D Hh Mi S Ns : Nat) (name : List UInt8) (off : Int) (w' : World) : Prop where
  bel : Below H w w'
  hH : H < w'.heap.size
theorem wr_le {name : List UInt8} {off : Int} {Y M D Hh Mi S Ns : Nat} (CF : CivF Y M D Hh Mi S Ns name off Y M D Hh Mi S Ns) {p : Fs.Piece} (h : p.text.length ≤ 1000) : (Fs.wr (tmOf Y M D Hh Mi S Ns name off) p).length ≤ 1000 := by
  unfold Fs.wr
  split
  · exact h
  · exact Fs.elem_le CF.tmd.ok _
theorem written_snoc {t : Fs.Tm} {ps : List Fs.Piece} {k : Nat} {p : Fs.Piece} (h : ps.drop k = p :: ps.drop (k + 1)) : Fs.written t (ps.take (k + 1)) = Fs.written t (ps.take k) ++ Fs.wr t p := by
  have hk : k < ps.length := by
    by_cases hk : k < ps.length
    · exact hk
    · rw [List.drop_of_length_le (by omega)] at h; cases h
  have hp : ps[k] = p := by
    rw [List.drop_eq_getElem_cons hk] at h
    exact (List.cons.inj h).1
  rw [List.take_succ_eq_append_getElem hk, hp]
  simp [Fs.written]
theorem written_len {t : Fs.Tm} : ∀ (ps : List Fs.Piece), (∀ p ∈ ps, (Fs.wr t p).length ≤ 1000) → (Fs.written t ps).length ≤ 1000 * ps.length
  | [], _ => by simp [Fs.written]
  | p :: r, h => by
    have h1 := h p (by simp)
    have h2 := written_len r (fun q hq => h q (by simp [hq]))
    have : Fs.written t (p :: r) = Fs.wr t p ++ Fs.written t r := by simp [Fs.written]
    rw [this]
    simp only [List.length_append, List.length_cons]
    omega

set_option maxRecDepth 100000 in
set_option maxHeartbeats 4000000 in
theorem Written_any {name : List UInt8} {off : Int} {Y M D Hh Mi S Ns : Nat} (CF : CivF Y M D Hh Mi S Ns name off Y M D Hh Mi S Ns) (ao : Option Addr) (cap : Nat) (ps : List Fs.Piece) (w : World) (H : PC w ao ps) (hlen : ps.length ≤ 100) (hok : ∀ p ∈ ps, wrOk p) (htx : ∀ p ∈ ps, p.text.length ≤ 1000) :
    Calls Tryd.prog 31 #[.slice ao ps.length cap, civilV (Y : Int) (M : Int) (D : Int) (Hh : Int) (Mi : Int) (S : Int) (Ns : Int) name off] w fun e w' => e = .returned (.string ⟨(Fs.written (tmOf Y M D Hh Mi S Ns name off) ps).toArray⟩) ∧ Below w.heap.size w w' := by
  have HOK := hide hok
  have HWL := hide (fun p (hp : p ∈ ps) => wr_le CF (htx p hp))
  have HCF := hide CF
  have b0 := (Below.refl w.heap.size w).alloc (Nat.le_refl _) (Obj.cells #[.int .i64 (Y : Int), .int .i64 (M : Int), .int .i64 (D : Int), .int .i64 (Hh : Int), .int .i64 (Mi : Int), .int .i64 (S : Int), .int .i64 (Ns : Int), .string ⟨name.toArray⟩, .int .i64 off] 25)
  have C0 := hide (CCell.new w (Y : Int) (M : Int) (D : Int) (Hh : Int) (Mi : Int) (S : Int) (Ns : Int) name off)
  clear hok htx CF
  unfold civilV at *
  go_enter Tryd.func31, Tryd.ntmps31
  go_wp2_with fail
  go_loopw [5, 6] (fun s i wr => ∃ k : Nat, k ≤ ps.length ∧ i = .int .i64 k ∧ s = .string ⟨(Fs.written (tmOf Y M D Hh Mi S Ns name off) (ps.take k)).toArray⟩ ∧ Hid (Below w.heap.size w wr ∧ CCell wr w.heap.size (Y : Int) (M : Int) (D : Int) (Hh : Int) (Mi : Int) (S : Int) (Ns : Int) name off))
    (fun _ i _ => ps.length - (intOf i).toNat)
  case atStart => exact ⟨0, Nat.zero_le _, rfl, rfl, b0, C0.out⟩
  case round =>
    clear b0 C0
    obtain ⟨k, hk, rfl, rfl, HI⟩ := hrel
    by_cases hlt : k < ps.length
    · obtain ⟨b, off0, rfl, hc⟩ : ∃ b off, ao = some ⟨b, off, none⟩ ∧ ∀ k (h : k < ps.length), PCell w b (off + k * 4) ps[k] := by
        rcases H with h | h
        · rw [h] at hlt; exact absurd hlt (by simp)
        · exact h
      have hcr := (hc k hlt).below HI.out.1
      clear hc H
      obtain ⟨p0, p1, p2, p3⟩ := hcr
      obtain ⟨p, hp⟩ : ∃ p, ps[k] = p := ⟨_, rfl⟩
      have HD : Hid (ps.drop k = p :: ps.drop (k + 1)) := by show _ = _; rw [drop_get hlt, hp]
      have hmem : p ∈ ps := by rw [← hp]; exact List.getElem_mem hlt
      have HWR := hide (fun W => written_any HCF.out p (HOK.out p hmem) W)
      have hL1 : (Fs.written (tmOf Y M D Hh Mi S Ns name off) (ps.take k)).length ≤ 100000 := by
        have := written_len (t := tmOf Y M D Hh Mi S Ns name off) (ps.take k) (fun q hq => HWL.out q (List.mem_of_mem_take hq))
        simp at this
        omega
      have hL2 := HWL.out p hmem
      have HS := hide (written_snoc (t := tmOf Y M D Hh Mi S Ns name off) HD.out)
      rw [hp] at p0 p1 p2 p3
      clear hp HOK HWL hmem HCF
      generalize Fs.wr (tmOf Y M D Hh Mi S Ns name off) p = el at HWR HS hL2
      generalize Fs.written (tmOf Y M D Hh Mi S Ns name off) (ps.take k) = sofar at HS hL1
      have hL3 : sofar.length + el.length ≤ 9223372036854775807 := by omega
      have hL4 : sofar.length + el.length ≤ maxLen := by simp [maxLen]; omega
      have hL5 : ¬ (maxLen < sofar.length + el.length) := by simp [maxLen]; omega
      have hL6 : ¬ (9223372036854775807 < sofar.length + el.length) := by omega
      obtain ⟨K, T, N, C⟩ := p
      simp only at p0 p1 p2 p3
      obtain ⟨c0, c1, c2, c3, c4, c5, c6, c7, c8⟩ := HI.out.2
      unfold civilV at HWR
      have HI2 : Hid (Below w.heap.size w wr.drew ∧ CCell wr.drew w.heap.size (Y : Int) (M : Int) (D : Int) (Hh : Int) (Mi : Int) (S : Int) (Ns : Int) name off) := ⟨HI.out.1.trans (Below.refl _ _).drew, HI.out.2.below (Below.refl _ _).drew⟩
      have HK : Hid True := trivial
      have hlt' : (k : Int) < ps.length := by omega
      go_wp2_with fail
      go_region_held3 (fun w' => w'.cell? ⟨b, off0 + k * 4, none⟩ = some (.int .i64 K) ∧ w'.cell? ⟨b, off0 + k * 4 + 1, none⟩ = some (.string ⟨T.toArray⟩) ∧ w'.cell? ⟨b, off0 + k * 4 + 2, none⟩ = some (.int .i64 N) ∧ w'.cell? ⟨b, off0 + k * 4 + 3, none⟩ = some (.bool C) ∧
          w'.cell? ⟨w.heap.size, 0, none⟩ = some (.int .i64 (Y : Int)) ∧ w'.cell? ⟨w.heap.size, 1, none⟩ = some (.int .i64 (M : Int)) ∧ w'.cell? ⟨w.heap.size, 2, none⟩ = some (.int .i64 (D : Int)) ∧ w'.cell? ⟨w.heap.size, 3, none⟩ = some (.int .i64 (Hh : Int)) ∧ w'.cell? ⟨w.heap.size, 4, none⟩ = some (.int .i64 (Mi : Int)) ∧ w'.cell? ⟨w.heap.size, 5, none⟩ = some (.int .i64 (S : Int)) ∧ w'.cell? ⟨w.heap.size, 6, none⟩ = some (.int .i64 (Ns : Int)) ∧ w'.cell? ⟨w.heap.size, 7, none⟩ = some (.string ⟨name.toArray⟩) ∧ w'.cell? ⟨w.heap.size, 8, none⟩ = some (.int .i64 off))
        ((((try dsimp only); (repeat' apply And.intro); all_goals (first | (go_split_ands; exact HK.out _ _ ‹_›) | go_keep))))
        (first
          | (go_at_call 52; refine (HWR.out _).mono ?_; rintro e w3 ⟨rfl, hq⟩; have HKx := keepC hq; have HIx := hide (And.intro (HI2.out.1.trans (hq.mono HI2.out.1.size)) (HI2.out.2.below hq)); clear HI2 HK; have HK := HKx; have HI2 := HIx; clear HKx HIx hq))
      clear HI
      go_wp2_with fail
      go_roundw
      case rel => exact ⟨k + 1, by omega, by go_num, by rw [HS.out], HI2⟩
      case measure => simp [intOf]; omega
    · have hkl : k = ps.length := by omega
      have HR : Hid (Fs.written (tmOf Y M D Hh Mi S Ns name off) (ps.take k) = Fs.written (tmOf Y M D Hh Mi S Ns name off) ps) := by show _ = _; rw [hkl, List.take_length]
      have hnl : ¬ ((k : Int) < ps.length) := by omega
      have hb := HI.out.1
      clear hkl hlt HI
      go_wp2_with fail
      go_ret
      exact ⟨ret_str HR.out, hb⟩
end Go.Proofs.YtjkfjlifcilejaaDoor
