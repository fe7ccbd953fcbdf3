/-
  THE LAW FnExactStrict: its walk: it returns true at every input (printed by wip/py/gen_strict.py).
-/
import Derived.Test.YtgcjhakhepgjlaaDoorRc
import Derived.Test.YtgcjhakhepgjlaaDoorS1
namespace Go.Proofs.YtgcjhakhepgjlaaDoor
open Go.RowKit
set_option linter.unusedVariables false
set_option linter.unusedSimpArgs false
attribute [local go_sem] ByteArray.extract_mk get_mk ByteArray.toList_mk ByteArray.mk_append_mk take_drop_len

theorem digb {k : Nat} (h : k < 10) : Fs.isDig (UInt8.ofNat (48 + k)) = true ∧ (UInt8.ofNat (48 + k)).toNat - 48 = k := by
  have e : (UInt8.ofNat (48 + k)).toNat = 48 + k := by rw [UInt8.toNat_ofNat']; omega
  refine ⟨?_, by omega⟩
  rw [Fs.isDig_iff, e]
  omega
theorem dg2_ex {N : Nat} (h : N ≤ 99) : ∃ a b : UInt8, Fs.dg 2 N = [a, b] ∧ (∀ c ∈ [a, b], Fs.isDig c = true) ∧ Fs.nval [a, b] 0 = N := by
  refine ⟨_, _, Fs.dg_two (by omega), ?_, ?_⟩
  · intro c hc
    rcases List.mem_cons.1 hc with rfl | hc
    · exact (digb (by omega)).1
    · obtain rfl := List.mem_singleton.1 hc
      exact (digb (by omega)).1
  · simp only [Fs.nval]
    rw [(digb (k := N / 10) (by omega)).2, (digb (k := N % 10) (by omega)).2]
    omega
theorem dg4_ex {N : Nat} (h : N ≤ 9999) : ∃ a b c d : UInt8, Fs.dg 4 N = [a, b, c, d] ∧ (∀ x ∈ [a, b, c, d], Fs.isDig x = true) ∧ Fs.nval [a, b, c, d] 0 = N := by
  refine ⟨_, _, _, _, Fs.dg_four (by omega), ?_, ?_⟩
  · intro c hc
    rcases List.mem_cons.1 hc with rfl | hc
    · exact (digb (by omega)).1
    rcases List.mem_cons.1 hc with rfl | hc
    · exact (digb (by omega)).1
    rcases List.mem_cons.1 hc with rfl | hc
    · exact (digb (by omega)).1
    · obtain rfl := List.mem_singleton.1 hc
      exact (digb (by omega)).1
  · simp only [Fs.nval]
    rw [(digb (k := N / 1000) (by omega)).2, (digb (k := N / 100 % 10) (by omega)).2, (digb (k := N / 10 % 10) (by omega)).2, (digb (k := N % 10) (by omega)).2]
    omega
theorem okS_iff {NY NM ND NH NI NS : Nat} : Fs.okS NY NM ND NH NI NS = true ↔ NY ≤ 9999 ∧ (1 ≤ NM ∧ NM ≤ 12) ∧ (1 ≤ ND ∧ ND ≤ Fs.monthLen (NY : Nat) NM) ∧ NH ≤ 23 ∧ NI ≤ 59 ∧ NS ≤ 59 := by
  constructor
  · intro h
    obtain ⟨a1, a2, a3, a4, a5, a6, a7, a8, a9, a10, a11, a12, a13, a14⟩ := okS_out h
    exact ⟨a2, ⟨a4, a5⟩, ⟨a7, a8⟩, a10, a12, a14⟩
  · rintro ⟨h1, h2, h3, h4, h5, h6⟩
    have e1 : Fs.uval 0 9999 NY = NY := by unfold Fs.uval; rw [if_pos ⟨Nat.zero_le _, h1⟩]
    have e2 : Fs.uval 1 12 NM = NM := by unfold Fs.uval; rw [if_pos h2]
    unfold Fs.okS Fs.uok
    rw [e1, e2]
    simp only [Bool.and_eq_true, decide_eq_true_iff, true_and]
    exact ⟨⟨⟨⟨⟨⟨Nat.zero_le _, h1⟩, h2⟩, h3⟩, ⟨Nat.zero_le _, h4⟩⟩, ⟨Nat.zero_le _, h5⟩⟩, ⟨Nat.zero_le _, h6⟩⟩
theorem dateOk_iff {Y M D : Nat} : Fs.dateOk (Y : Int) (M : Int) (D : Int) = true ↔ Y ≤ 9999 ∧ (1 ≤ M ∧ M ≤ 12) ∧ (1 ≤ D ∧ D ≤ Fs.monthLen (Y : Nat) M) := by
  unfold Fs.dateOk
  simp only [Bool.and_eq_true, Fs.within_iff, Int.toNat_natCast]
  omega
/-- the texts of six numbers, in the form of RFC 3339: read, just if there is such a time -/
theorem strict_text {y0 y1 y2 y3 m0 m1 d0 d1 h0 h1 i0 i1 s0 s1 : UInt8} {Y M D Hh I S : Nat} (D1 : ∀ c ∈ [y0, y1, y2, y3], Fs.isDig c = true) (D2 : ∀ c ∈ [m0, m1], Fs.isDig c = true) (D3 : ∀ c ∈ [d0, d1], Fs.isDig c = true) (D4 : ∀ c ∈ [h0, h1], Fs.isDig c = true) (D5 : ∀ c ∈ [i0, i1], Fs.isDig c = true) (D6 : ∀ c ∈ [s0, s1], Fs.isDig c = true)
    (N1 : Fs.nval [y0, y1, y2, y3] 0 = Y) (N2 : Fs.nval [m0, m1] 0 = M) (N3 : Fs.nval [d0, d1] 0 = D) (N4 : Fs.nval [h0, h1] 0 = Hh) (N5 : Fs.nval [i0, i1] 0 = I) (N6 : Fs.nval [s0, s1] 0 = S) :
    (Fs.okS Y M D Hh I S = false → PNo [y0, y1, y2, y3, 45, m0, m1, 45, d0, d1, 84, h0, h1, 58, i0, i1, 58, s0, s1, 90]) ∧ (Fs.okS Y M D Hh I S = true → POk [y0, y1, y2, y3, 45, m0, m1, 45, d0, d1, 84, h0, h1, 58, i0, i1, 58, s0, s1, 90] Y M D Hh I S) := by
  have h := fun g w hU => p3339_any (hide D1) (hide D2) (hide D3) (hide D4) (hide D5) (hide D6) g w hU
  rw [N1, N2, N3, N4, N5, N6] at h
  refine ⟨fun hk g w hU => (h g w hU).mono ?_, fun hk g w hU => (h g w hU).mono ?_⟩
  · rintro e w' ⟨⟨_, he⟩ | ⟨h1, _⟩, hb⟩
    · exact ⟨he, hb⟩
    · rw [hk] at h1; exact absurd h1 (by decide)
  · rintro e w' ⟨⟨h1, _⟩ | ⟨_, he⟩, hb⟩
    · rw [hk] at h1; exact absurd h1 (by decide)
    · exact ⟨he, hb⟩
theorem field_few (w : World) : (Instr.field 29 (.agg #[.int .i64 2006, .int .i64 1, .int .i64 2, .int .i64 15, .int .i64 4, .int .i64 5, .int .i64 0, .string ⟨#[85, 84, 67]⟩, .int .i64 0, .bool true]) 1).run Tryd.prog w = .ok (.bool true) w := by kernel_rfl
/-- '2006-01-02T15:04:05Z' -/
theorem strict_few : POk [50, 48, 48, 54, 45, 48, 49, 45, 48, 50, 84, 49, 53, 58, 48, 52, 58, 48, 53, 90] (2006 : Nat) 1 2 15 4 5 :=
  (strict_text (y0 := 50) (y1 := 48) (y2 := 48) (y3 := 54) (m0 := 48) (m1 := 49) (d0 := 48) (d1 := 50) (h0 := 49) (h1 := 53) (i0 := 48) (i1 := 52) (s0 := 48) (s1 := 53) (Y := 2006) (M := 1) (D := 2) (Hh := 15) (I := 4) (S := 5)
    (by decide) (by decide) (by decide) (by decide) (by decide) (by decide) (by decide) (by decide) (by decide) (by decide) (by decide) (by decide)).2 (by decide)


set_option maxRecDepth 100000 in
set_option maxHeartbeats 2000000 in
theorem strict_out0 (y m d h mi s : Int) (h0 : Fs.within y 0 9999 = false) (w : World) :
    Calls Tryd.prog 3 #[.int .i64 y, .int .i64 m, .int .i64 d, .int .i64 h, .int .i64 mi, .int .i64 s] w fun e w' => e = .returned (.bool true) ∧ Below w.heap.size w w' := by
  go_enter Tryd.func3, Tryd.ntmps3
  go_wp2_with fail
  refine (within_any _ 0 9999 _).mono ?_
  rw [h0]
  rintro e w1 ⟨rfl, hq1⟩
  clear h0
  go_wp2_with fail
  go_ret
  exact ⟨rfl, hq1.below _⟩

set_option maxRecDepth 100000 in
set_option maxHeartbeats 2000000 in
theorem strict_out1 (y m d h mi s : Int) (h0 : Fs.within y 0 9999 = true) (h1 : Fs.within m 0 99 = false) (w : World) :
    Calls Tryd.prog 3 #[.int .i64 y, .int .i64 m, .int .i64 d, .int .i64 h, .int .i64 mi, .int .i64 s] w fun e w' => e = .returned (.bool true) ∧ Below w.heap.size w w' := by
  go_enter Tryd.func3, Tryd.ntmps3
  go_wp2_with fail
  refine (within_any _ 0 9999 _).mono ?_
  rw [h0]
  rintro e w1 ⟨rfl, hq1⟩
  clear h0
  go_wp2_with fail
  refine (within_any _ 0 99 _).mono ?_
  rw [h1]
  rintro e w2 ⟨rfl, hq2⟩
  clear h1
  go_wp2_with fail
  go_ret
  exact ⟨rfl, (hq1.trans hq2).below _⟩

set_option maxRecDepth 100000 in
set_option maxHeartbeats 2000000 in
theorem strict_out2 (y m d h mi s : Int) (h0 : Fs.within y 0 9999 = true) (h1 : Fs.within m 0 99 = true) (h2 : Fs.within d 0 99 = false) (w : World) :
    Calls Tryd.prog 3 #[.int .i64 y, .int .i64 m, .int .i64 d, .int .i64 h, .int .i64 mi, .int .i64 s] w fun e w' => e = .returned (.bool true) ∧ Below w.heap.size w w' := by
  go_enter Tryd.func3, Tryd.ntmps3
  go_wp2_with fail
  refine (within_any _ 0 9999 _).mono ?_
  rw [h0]
  rintro e w1 ⟨rfl, hq1⟩
  clear h0
  go_wp2_with fail
  refine (within_any _ 0 99 _).mono ?_
  rw [h1]
  rintro e w2 ⟨rfl, hq2⟩
  clear h1
  go_wp2_with fail
  refine (within_any _ 0 99 _).mono ?_
  rw [h2]
  rintro e w3 ⟨rfl, hq3⟩
  clear h2
  go_wp2_with fail
  go_ret
  exact ⟨rfl, ((hq1.trans hq2).trans hq3).below _⟩

set_option maxRecDepth 100000 in
set_option maxHeartbeats 2000000 in
theorem strict_out3 (y m d h mi s : Int) (h0 : Fs.within y 0 9999 = true) (h1 : Fs.within m 0 99 = true) (h2 : Fs.within d 0 99 = true) (h3 : Fs.within h 0 99 = false) (w : World) :
    Calls Tryd.prog 3 #[.int .i64 y, .int .i64 m, .int .i64 d, .int .i64 h, .int .i64 mi, .int .i64 s] w fun e w' => e = .returned (.bool true) ∧ Below w.heap.size w w' := by
  go_enter Tryd.func3, Tryd.ntmps3
  go_wp2_with fail
  refine (within_any _ 0 9999 _).mono ?_
  rw [h0]
  rintro e w1 ⟨rfl, hq1⟩
  clear h0
  go_wp2_with fail
  refine (within_any _ 0 99 _).mono ?_
  rw [h1]
  rintro e w2 ⟨rfl, hq2⟩
  clear h1
  go_wp2_with fail
  refine (within_any _ 0 99 _).mono ?_
  rw [h2]
  rintro e w3 ⟨rfl, hq3⟩
  clear h2
  go_wp2_with fail
  refine (within_any _ 0 99 _).mono ?_
  rw [h3]
  rintro e w4 ⟨rfl, hq4⟩
  clear h3
  go_wp2_with fail
  go_ret
  exact ⟨rfl, (((hq1.trans hq2).trans hq3).trans hq4).below _⟩

set_option maxRecDepth 100000 in
set_option maxHeartbeats 2000000 in
theorem strict_out4 (y m d h mi s : Int) (h0 : Fs.within y 0 9999 = true) (h1 : Fs.within m 0 99 = true) (h2 : Fs.within d 0 99 = true) (h3 : Fs.within h 0 99 = true) (h4 : Fs.within mi 0 99 = false) (w : World) :
    Calls Tryd.prog 3 #[.int .i64 y, .int .i64 m, .int .i64 d, .int .i64 h, .int .i64 mi, .int .i64 s] w fun e w' => e = .returned (.bool true) ∧ Below w.heap.size w w' := by
  go_enter Tryd.func3, Tryd.ntmps3
  go_wp2_with fail
  refine (within_any _ 0 9999 _).mono ?_
  rw [h0]
  rintro e w1 ⟨rfl, hq1⟩
  clear h0
  go_wp2_with fail
  refine (within_any _ 0 99 _).mono ?_
  rw [h1]
  rintro e w2 ⟨rfl, hq2⟩
  clear h1
  go_wp2_with fail
  refine (within_any _ 0 99 _).mono ?_
  rw [h2]
  rintro e w3 ⟨rfl, hq3⟩
  clear h2
  go_wp2_with fail
  refine (within_any _ 0 99 _).mono ?_
  rw [h3]
  rintro e w4 ⟨rfl, hq4⟩
  clear h3
  go_wp2_with fail
  refine (within_any _ 0 99 _).mono ?_
  rw [h4]
  rintro e w5 ⟨rfl, hq5⟩
  clear h4
  go_wp2_with fail
  go_ret
  exact ⟨rfl, ((((hq1.trans hq2).trans hq3).trans hq4).trans hq5).below _⟩

set_option maxRecDepth 100000 in
set_option maxHeartbeats 2000000 in
theorem strict_out5 (y m d h mi s : Int) (h0 : Fs.within y 0 9999 = true) (h1 : Fs.within m 0 99 = true) (h2 : Fs.within d 0 99 = true) (h3 : Fs.within h 0 99 = true) (h4 : Fs.within mi 0 99 = true) (h5 : Fs.within s 0 99 = false) (w : World) :
    Calls Tryd.prog 3 #[.int .i64 y, .int .i64 m, .int .i64 d, .int .i64 h, .int .i64 mi, .int .i64 s] w fun e w' => e = .returned (.bool true) ∧ Below w.heap.size w w' := by
  go_enter Tryd.func3, Tryd.ntmps3
  go_wp2_with fail
  refine (within_any _ 0 9999 _).mono ?_
  rw [h0]
  rintro e w1 ⟨rfl, hq1⟩
  clear h0
  go_wp2_with fail
  refine (within_any _ 0 99 _).mono ?_
  rw [h1]
  rintro e w2 ⟨rfl, hq2⟩
  clear h1
  go_wp2_with fail
  refine (within_any _ 0 99 _).mono ?_
  rw [h2]
  rintro e w3 ⟨rfl, hq3⟩
  clear h2
  go_wp2_with fail
  refine (within_any _ 0 99 _).mono ?_
  rw [h3]
  rintro e w4 ⟨rfl, hq4⟩
  clear h3
  go_wp2_with fail
  refine (within_any _ 0 99 _).mono ?_
  rw [h4]
  rintro e w5 ⟨rfl, hq5⟩
  clear h4
  go_wp2_with fail
  refine (within_any _ 0 99 _).mono ?_
  rw [h5]
  rintro e w6 ⟨rfl, hq6⟩
  clear h5
  go_wp2_with fail
  go_ret
  exact ⟨rfl, (((((hq1.trans hq2).trans hq3).trans hq4).trans hq5).trans hq6).below _⟩

set_option maxRecDepth 100000 in
set_option maxHeartbeats 4000000 in
theorem strict_in_a (Y M D Hh I S : Nat) (b0 : Y ≤ 9999) (b1 : M ≤ 99) (b2 : D ≤ 99) (b3 : Hh ≤ 99) (b4 : I ≤ 99) (b5 : S ≤ 99) (hdok : Fs.dateOk (Y : Int) (M : Int) (D : Int) = false) (w : World) :
    Calls Tryd.prog 3 #[.int .i64 (Y : Int), .int .i64 (M : Int), .int .i64 (D : Int), .int .i64 (Hh : Int), .int .i64 (I : Int), .int .i64 (S : Int)] w fun e w' => e = .returned (.bool true) ∧ Below w.heap.size w w' := by
  have wk0 : Fs.within (Y : Int) 0 9999 = true := Fs.within_iff.2 (by omega)
  have wk1 : Fs.within (M : Int) 0 99 = true := Fs.within_iff.2 (by omega)
  have wk2 : Fs.within (D : Int) 0 99 = true := Fs.within_iff.2 (by omega)
  have wk3 : Fs.within (Hh : Int) 0 99 = true := Fs.within_iff.2 (by omega)
  have wk4 : Fs.within (I : Int) 0 99 = true := Fs.within_iff.2 (by omega)
  have wk5 : Fs.within (S : Int) 0 99 = true := Fs.within_iff.2 (by omega)
  obtain ⟨y0, y1, y2, y3, E0, D0, N0⟩ := dg4_ex b0
  have G0 : Hid (∀ w, Calls Tryd.prog 7 #[.int .i64 (Y : Int), .int .i64 4] w fun e w' => e = .returned (.string ⟨#[y0, y1, y2, y3]⟩) ∧ Below w.heap.size w w') := by
    show ∀ w, _
    intro w
    have := Digits_any Y 4 (by omega) (by omega) w
    rw [E0] at this
    exact this
  obtain ⟨m0, m1, E1, D1, N1⟩ := dg2_ex b1
  have G1 : Hid (∀ w, Calls Tryd.prog 7 #[.int .i64 (M : Int), .int .i64 2] w fun e w' => e = .returned (.string ⟨#[m0, m1]⟩) ∧ Below w.heap.size w w') := by
    show ∀ w, _
    intro w
    have := Digits_any M 2 (by omega) (by omega) w
    rw [E1] at this
    exact this
  obtain ⟨d0, d1, E2, D2, N2⟩ := dg2_ex b2
  have G2 : Hid (∀ w, Calls Tryd.prog 7 #[.int .i64 (D : Int), .int .i64 2] w fun e w' => e = .returned (.string ⟨#[d0, d1]⟩) ∧ Below w.heap.size w w') := by
    show ∀ w, _
    intro w
    have := Digits_any D 2 (by omega) (by omega) w
    rw [E2] at this
    exact this
  obtain ⟨h0, h1, E3, D3, N3⟩ := dg2_ex b3
  have G3 : Hid (∀ w, Calls Tryd.prog 7 #[.int .i64 (Hh : Int), .int .i64 2] w fun e w' => e = .returned (.string ⟨#[h0, h1]⟩) ∧ Below w.heap.size w w') := by
    show ∀ w, _
    intro w
    have := Digits_any Hh 2 (by omega) (by omega) w
    rw [E3] at this
    exact this
  obtain ⟨i0, i1, E4, D4, N4⟩ := dg2_ex b4
  have G4 : Hid (∀ w, Calls Tryd.prog 7 #[.int .i64 (I : Int), .int .i64 2] w fun e w' => e = .returned (.string ⟨#[i0, i1]⟩) ∧ Below w.heap.size w w') := by
    show ∀ w, _
    intro w
    have := Digits_any I 2 (by omega) (by omega) w
    rw [E4] at this
    exact this
  obtain ⟨s0, s1, E5, D5, N5⟩ := dg2_ex b5
  have G5 : Hid (∀ w, Calls Tryd.prog 7 #[.int .i64 (S : Int), .int .i64 2] w fun e w' => e = .returned (.string ⟨#[s0, s1]⟩) ∧ Below w.heap.size w w') := by
    show ∀ w, _
    intro w
    have := Digits_any S 2 (by omega) (by omega) w
    rw [E5] at this
    exact this
  have HP := strict_text D0 D1 D2 D3 D4 D5 N0 N1 N2 N3 N4 N5
  have hk : Fs.okS Y M D Hh I S = false := by
    rw [Bool.eq_false_iff]
    intro hk
    have h1 := okS_iff.1 hk
    rw [dateOk_iff.2 ⟨h1.1, h1.2.1, h1.2.2.1⟩] at hdok
    exact absurd hdok (by decide)
  have hP := HP.1 hk
  have S1 := hide (fun w => Strict_no hP w)
  have S2 := hide (fun w => Strict_ok strict_few w)
  have FF := field_few
  have DK := hide (fun w => dateOk_any (Y : Int) (M : Int) (D : Int) w)
  rw [hdok] at DK
  clear HP hP hdok E0 D0 N0 b0 E1 D1 N1 b1 E2 D2 N2 b2 E3 D3 N3 b3 E4 D4 N4 b4 E5 D5 N5 b5 hk
  go_enter Tryd.func3, Tryd.ntmps3
  go_wp2_with fail
  refine (within_any _ 0 9999 _).mono ?_
  rw [wk0]
  rintro e w1 ⟨rfl, hq1⟩
  clear wk0
  go_wp2_with fail
  refine (within_any _ 0 99 _).mono ?_
  rw [wk1]
  rintro e w2 ⟨rfl, hq2⟩
  clear wk1
  go_wp2_with fail
  refine (within_any _ 0 99 _).mono ?_
  rw [wk2]
  rintro e w3 ⟨rfl, hq3⟩
  clear wk2
  go_wp2_with fail
  refine (within_any _ 0 99 _).mono ?_
  rw [wk3]
  rintro e w4 ⟨rfl, hq4⟩
  clear wk3
  go_wp2_with fail
  refine (within_any _ 0 99 _).mono ?_
  rw [wk4]
  rintro e w5 ⟨rfl, hq5⟩
  clear wk4
  go_wp2_with fail
  refine (within_any _ 0 99 _).mono ?_
  rw [wk5]
  rintro e w6 ⟨rfl, hq6⟩
  clear wk5
  have B6 := hide ((((((hq1.trans hq2).trans hq3).trans hq4).trans hq5).trans hq6).below w.heap.size)
  clear hq1 hq2 hq3 hq4 hq5 hq6
  go_wp2_with fail
  refine (G0.out _).mono ?_
  rintro e w7 ⟨rfl, hq⟩
  have B7 := hide (B6.out.trans (hq.mono B6.out.size))
  clear hq G0 B6
  go_wp2_with fail
  refine (G1.out _).mono ?_
  rintro e w8 ⟨rfl, hq⟩
  have B8 := hide (B7.out.trans (hq.mono B7.out.size))
  clear hq G1 B7
  go_wp2_with fail
  refine (G2.out _).mono ?_
  rintro e w9 ⟨rfl, hq⟩
  have B9 := hide (B8.out.trans (hq.mono B8.out.size))
  clear hq G2 B8
  go_wp2_with fail
  refine (G3.out _).mono ?_
  rintro e w10 ⟨rfl, hq⟩
  have B10 := hide (B9.out.trans (hq.mono B9.out.size))
  clear hq G3 B9
  go_wp2_with fail
  refine (G4.out _).mono ?_
  rintro e w11 ⟨rfl, hq⟩
  have B11 := hide (B10.out.trans (hq.mono B10.out.size))
  clear hq G4 B10
  go_wp2_with fail
  refine (G5.out _).mono ?_
  rintro e w12 ⟨rfl, hq⟩
  have B12 := hide (B11.out.trans (hq.mono B11.out.size))
  clear hq G5 B11
  go_wp2_with fail
  refine (S1.out _).mono ?_
  rintro e w13 ⟨rfl, hq⟩
  have B13 := hide (B12.out.trans (hq.mono B12.out.size))
  have HR := hide (RCell.new w13 0 0 0 0 0 0 0 [] 0 false 29)
  have ba : Below w13.heap.size w13 (w13.alloc (.cells #[.int .i64 0, .int .i64 0, .int .i64 0, .int .i64 0, .int .i64 0, .int .i64 0, .int .i64 0, .string ⟨[].toArray⟩, .int .i64 0, .bool false] 29)) := (Below.refl _ _).alloc (Nat.le_refl _) _
  have B14 := hide (B13.out.trans (ba.mono B13.out.size))
  clear hq S1 B12 B13 ba
  unfold parsedV
  unfold utcB at *
  go_wp2_with fail
  refine (S2.out _).mono ?_
  rintro e w15 ⟨rfl, hq⟩
  have B15 := hide (B14.out.trans (hq.mono B14.out.size))
  obtain ⟨⟨o0, o1, o2, o3, o4, o5, o6, o7, o8, -, -, -, -, -, -, -, -, -⟩, o9, -⟩ := HR.out.below hq
  clear hq S2 B14 HR
  unfold parsedV
  go_wp2_with fail
  refine (DK.out _).mono ?_
  rintro e w16 ⟨rfl, hq⟩
  have B16 := hide (B15.out.trans (hq.below _))
  have p0 := hq.cell o0
  have p1 := hq.cell o1
  have p2 := hq.cell o2
  have p3 := hq.cell o3
  have p4 := hq.cell o4
  have p5 := hq.cell o5
  have p6 := hq.cell o6
  have p7 := hq.cell o7
  have p8 := hq.cell o8
  have p9 := hq.cell o9
  clear hq DK B15 o0 o1 o2 o3 o4 o5 o6 o7 o8 o9
  go_wp2_with fail
  go_ret
  exact ⟨rfl, B16.out⟩

set_option maxRecDepth 100000 in
set_option maxHeartbeats 4000000 in
theorem strict_in_b (Y M D Hh I S : Nat) (b0 : Y ≤ 9999) (b1 : M ≤ 99) (b2 : D ≤ 99) (b3 : Hh ≤ 99) (b4 : I ≤ 99) (b5 : S ≤ 99) (hdok : Fs.dateOk (Y : Int) (M : Int) (D : Int) = true) (t1 : 23 < Hh) (w : World) :
    Calls Tryd.prog 3 #[.int .i64 (Y : Int), .int .i64 (M : Int), .int .i64 (D : Int), .int .i64 (Hh : Int), .int .i64 (I : Int), .int .i64 (S : Int)] w fun e w' => e = .returned (.bool true) ∧ Below w.heap.size w w' := by
  have wk0 : Fs.within (Y : Int) 0 9999 = true := Fs.within_iff.2 (by omega)
  have wk1 : Fs.within (M : Int) 0 99 = true := Fs.within_iff.2 (by omega)
  have wk2 : Fs.within (D : Int) 0 99 = true := Fs.within_iff.2 (by omega)
  have wk3 : Fs.within (Hh : Int) 0 99 = true := Fs.within_iff.2 (by omega)
  have wk4 : Fs.within (I : Int) 0 99 = true := Fs.within_iff.2 (by omega)
  have wk5 : Fs.within (S : Int) 0 99 = true := Fs.within_iff.2 (by omega)
  obtain ⟨y0, y1, y2, y3, E0, D0, N0⟩ := dg4_ex b0
  have G0 : Hid (∀ w, Calls Tryd.prog 7 #[.int .i64 (Y : Int), .int .i64 4] w fun e w' => e = .returned (.string ⟨#[y0, y1, y2, y3]⟩) ∧ Below w.heap.size w w') := by
    show ∀ w, _
    intro w
    have := Digits_any Y 4 (by omega) (by omega) w
    rw [E0] at this
    exact this
  obtain ⟨m0, m1, E1, D1, N1⟩ := dg2_ex b1
  have G1 : Hid (∀ w, Calls Tryd.prog 7 #[.int .i64 (M : Int), .int .i64 2] w fun e w' => e = .returned (.string ⟨#[m0, m1]⟩) ∧ Below w.heap.size w w') := by
    show ∀ w, _
    intro w
    have := Digits_any M 2 (by omega) (by omega) w
    rw [E1] at this
    exact this
  obtain ⟨d0, d1, E2, D2, N2⟩ := dg2_ex b2
  have G2 : Hid (∀ w, Calls Tryd.prog 7 #[.int .i64 (D : Int), .int .i64 2] w fun e w' => e = .returned (.string ⟨#[d0, d1]⟩) ∧ Below w.heap.size w w') := by
    show ∀ w, _
    intro w
    have := Digits_any D 2 (by omega) (by omega) w
    rw [E2] at this
    exact this
  obtain ⟨h0, h1, E3, D3, N3⟩ := dg2_ex b3
  have G3 : Hid (∀ w, Calls Tryd.prog 7 #[.int .i64 (Hh : Int), .int .i64 2] w fun e w' => e = .returned (.string ⟨#[h0, h1]⟩) ∧ Below w.heap.size w w') := by
    show ∀ w, _
    intro w
    have := Digits_any Hh 2 (by omega) (by omega) w
    rw [E3] at this
    exact this
  obtain ⟨i0, i1, E4, D4, N4⟩ := dg2_ex b4
  have G4 : Hid (∀ w, Calls Tryd.prog 7 #[.int .i64 (I : Int), .int .i64 2] w fun e w' => e = .returned (.string ⟨#[i0, i1]⟩) ∧ Below w.heap.size w w') := by
    show ∀ w, _
    intro w
    have := Digits_any I 2 (by omega) (by omega) w
    rw [E4] at this
    exact this
  obtain ⟨s0, s1, E5, D5, N5⟩ := dg2_ex b5
  have G5 : Hid (∀ w, Calls Tryd.prog 7 #[.int .i64 (S : Int), .int .i64 2] w fun e w' => e = .returned (.string ⟨#[s0, s1]⟩) ∧ Below w.heap.size w w') := by
    show ∀ w, _
    intro w
    have := Digits_any S 2 (by omega) (by omega) w
    rw [E5] at this
    exact this
  have HP := strict_text D0 D1 D2 D3 D4 D5 N0 N1 N2 N3 N4 N5
  have hk : Fs.okS Y M D Hh I S = false := by
    rw [Bool.eq_false_iff]
    intro hk
    have h1 := okS_iff.1 hk
    omega
  have hP := HP.1 hk
  have S1 := hide (fun w => Strict_no hP w)
  have S2 := hide (fun w => Strict_ok strict_few w)
  have FF := field_few
  have DK := hide (fun w => dateOk_any (Y : Int) (M : Int) (D : Int) w)
  rw [hdok] at DK
  have u1 : (23 : Int) < (Hh : Int) := by omega
  clear HP hP hdok E0 D0 N0 b0 E1 D1 N1 b1 E2 D2 N2 b2 E3 D3 N3 b3 E4 D4 N4 b4 E5 D5 N5 b5 hk t1
  go_enter Tryd.func3, Tryd.ntmps3
  go_wp2_with fail
  refine (within_any _ 0 9999 _).mono ?_
  rw [wk0]
  rintro e w1 ⟨rfl, hq1⟩
  clear wk0
  go_wp2_with fail
  refine (within_any _ 0 99 _).mono ?_
  rw [wk1]
  rintro e w2 ⟨rfl, hq2⟩
  clear wk1
  go_wp2_with fail
  refine (within_any _ 0 99 _).mono ?_
  rw [wk2]
  rintro e w3 ⟨rfl, hq3⟩
  clear wk2
  go_wp2_with fail
  refine (within_any _ 0 99 _).mono ?_
  rw [wk3]
  rintro e w4 ⟨rfl, hq4⟩
  clear wk3
  go_wp2_with fail
  refine (within_any _ 0 99 _).mono ?_
  rw [wk4]
  rintro e w5 ⟨rfl, hq5⟩
  clear wk4
  go_wp2_with fail
  refine (within_any _ 0 99 _).mono ?_
  rw [wk5]
  rintro e w6 ⟨rfl, hq6⟩
  clear wk5
  have B6 := hide ((((((hq1.trans hq2).trans hq3).trans hq4).trans hq5).trans hq6).below w.heap.size)
  clear hq1 hq2 hq3 hq4 hq5 hq6
  go_wp2_with fail
  refine (G0.out _).mono ?_
  rintro e w7 ⟨rfl, hq⟩
  have B7 := hide (B6.out.trans (hq.mono B6.out.size))
  clear hq G0 B6
  go_wp2_with fail
  refine (G1.out _).mono ?_
  rintro e w8 ⟨rfl, hq⟩
  have B8 := hide (B7.out.trans (hq.mono B7.out.size))
  clear hq G1 B7
  go_wp2_with fail
  refine (G2.out _).mono ?_
  rintro e w9 ⟨rfl, hq⟩
  have B9 := hide (B8.out.trans (hq.mono B8.out.size))
  clear hq G2 B8
  go_wp2_with fail
  refine (G3.out _).mono ?_
  rintro e w10 ⟨rfl, hq⟩
  have B10 := hide (B9.out.trans (hq.mono B9.out.size))
  clear hq G3 B9
  go_wp2_with fail
  refine (G4.out _).mono ?_
  rintro e w11 ⟨rfl, hq⟩
  have B11 := hide (B10.out.trans (hq.mono B10.out.size))
  clear hq G4 B10
  go_wp2_with fail
  refine (G5.out _).mono ?_
  rintro e w12 ⟨rfl, hq⟩
  have B12 := hide (B11.out.trans (hq.mono B11.out.size))
  clear hq G5 B11
  go_wp2_with fail
  refine (S1.out _).mono ?_
  rintro e w13 ⟨rfl, hq⟩
  have B13 := hide (B12.out.trans (hq.mono B12.out.size))
  have HR := hide (RCell.new w13 0 0 0 0 0 0 0 [] 0 false 29)
  have ba : Below w13.heap.size w13 (w13.alloc (.cells #[.int .i64 0, .int .i64 0, .int .i64 0, .int .i64 0, .int .i64 0, .int .i64 0, .int .i64 0, .string ⟨[].toArray⟩, .int .i64 0, .bool false] 29)) := (Below.refl _ _).alloc (Nat.le_refl _) _
  have B14 := hide (B13.out.trans (ba.mono B13.out.size))
  clear hq S1 B12 B13 ba
  unfold parsedV
  unfold utcB at *
  go_wp2_with fail
  refine (S2.out _).mono ?_
  rintro e w15 ⟨rfl, hq⟩
  have B15 := hide (B14.out.trans (hq.mono B14.out.size))
  obtain ⟨⟨o0, o1, o2, o3, o4, o5, o6, o7, o8, -, -, -, -, -, -, -, -, -⟩, o9, -⟩ := HR.out.below hq
  clear hq S2 B14 HR
  unfold parsedV
  go_wp2_with fail
  refine (DK.out _).mono ?_
  rintro e w16 ⟨rfl, hq⟩
  have B16 := hide (B15.out.trans (hq.below _))
  have p0 := hq.cell o0
  have p1 := hq.cell o1
  have p2 := hq.cell o2
  have p3 := hq.cell o3
  have p4 := hq.cell o4
  have p5 := hq.cell o5
  have p6 := hq.cell o6
  have p7 := hq.cell o7
  have p8 := hq.cell o8
  have p9 := hq.cell o9
  clear hq DK B15 o0 o1 o2 o3 o4 o5 o6 o7 o8 o9
  go_wp2_with fail
  go_ret
  exact ⟨rfl, B16.out⟩

set_option maxRecDepth 100000 in
set_option maxHeartbeats 4000000 in
theorem strict_in_c (Y M D Hh I S : Nat) (b0 : Y ≤ 9999) (b1 : M ≤ 99) (b2 : D ≤ 99) (b3 : Hh ≤ 99) (b4 : I ≤ 99) (b5 : S ≤ 99) (hdok : Fs.dateOk (Y : Int) (M : Int) (D : Int) = true) (t1 : Hh ≤ 23) (t2 : 59 < I) (w : World) :
    Calls Tryd.prog 3 #[.int .i64 (Y : Int), .int .i64 (M : Int), .int .i64 (D : Int), .int .i64 (Hh : Int), .int .i64 (I : Int), .int .i64 (S : Int)] w fun e w' => e = .returned (.bool true) ∧ Below w.heap.size w w' := by
  have wk0 : Fs.within (Y : Int) 0 9999 = true := Fs.within_iff.2 (by omega)
  have wk1 : Fs.within (M : Int) 0 99 = true := Fs.within_iff.2 (by omega)
  have wk2 : Fs.within (D : Int) 0 99 = true := Fs.within_iff.2 (by omega)
  have wk3 : Fs.within (Hh : Int) 0 99 = true := Fs.within_iff.2 (by omega)
  have wk4 : Fs.within (I : Int) 0 99 = true := Fs.within_iff.2 (by omega)
  have wk5 : Fs.within (S : Int) 0 99 = true := Fs.within_iff.2 (by omega)
  obtain ⟨y0, y1, y2, y3, E0, D0, N0⟩ := dg4_ex b0
  have G0 : Hid (∀ w, Calls Tryd.prog 7 #[.int .i64 (Y : Int), .int .i64 4] w fun e w' => e = .returned (.string ⟨#[y0, y1, y2, y3]⟩) ∧ Below w.heap.size w w') := by
    show ∀ w, _
    intro w
    have := Digits_any Y 4 (by omega) (by omega) w
    rw [E0] at this
    exact this
  obtain ⟨m0, m1, E1, D1, N1⟩ := dg2_ex b1
  have G1 : Hid (∀ w, Calls Tryd.prog 7 #[.int .i64 (M : Int), .int .i64 2] w fun e w' => e = .returned (.string ⟨#[m0, m1]⟩) ∧ Below w.heap.size w w') := by
    show ∀ w, _
    intro w
    have := Digits_any M 2 (by omega) (by omega) w
    rw [E1] at this
    exact this
  obtain ⟨d0, d1, E2, D2, N2⟩ := dg2_ex b2
  have G2 : Hid (∀ w, Calls Tryd.prog 7 #[.int .i64 (D : Int), .int .i64 2] w fun e w' => e = .returned (.string ⟨#[d0, d1]⟩) ∧ Below w.heap.size w w') := by
    show ∀ w, _
    intro w
    have := Digits_any D 2 (by omega) (by omega) w
    rw [E2] at this
    exact this
  obtain ⟨h0, h1, E3, D3, N3⟩ := dg2_ex b3
  have G3 : Hid (∀ w, Calls Tryd.prog 7 #[.int .i64 (Hh : Int), .int .i64 2] w fun e w' => e = .returned (.string ⟨#[h0, h1]⟩) ∧ Below w.heap.size w w') := by
    show ∀ w, _
    intro w
    have := Digits_any Hh 2 (by omega) (by omega) w
    rw [E3] at this
    exact this
  obtain ⟨i0, i1, E4, D4, N4⟩ := dg2_ex b4
  have G4 : Hid (∀ w, Calls Tryd.prog 7 #[.int .i64 (I : Int), .int .i64 2] w fun e w' => e = .returned (.string ⟨#[i0, i1]⟩) ∧ Below w.heap.size w w') := by
    show ∀ w, _
    intro w
    have := Digits_any I 2 (by omega) (by omega) w
    rw [E4] at this
    exact this
  obtain ⟨s0, s1, E5, D5, N5⟩ := dg2_ex b5
  have G5 : Hid (∀ w, Calls Tryd.prog 7 #[.int .i64 (S : Int), .int .i64 2] w fun e w' => e = .returned (.string ⟨#[s0, s1]⟩) ∧ Below w.heap.size w w') := by
    show ∀ w, _
    intro w
    have := Digits_any S 2 (by omega) (by omega) w
    rw [E5] at this
    exact this
  have HP := strict_text D0 D1 D2 D3 D4 D5 N0 N1 N2 N3 N4 N5
  have hk : Fs.okS Y M D Hh I S = false := by
    rw [Bool.eq_false_iff]
    intro hk
    have h1 := okS_iff.1 hk
    omega
  have hP := HP.1 hk
  have S1 := hide (fun w => Strict_no hP w)
  have S2 := hide (fun w => Strict_ok strict_few w)
  have FF := field_few
  have DK := hide (fun w => dateOk_any (Y : Int) (M : Int) (D : Int) w)
  rw [hdok] at DK
  have u1 : ¬ (23 : Int) < (Hh : Int) := by omega
  have u2 : (59 : Int) < (I : Int) := by omega
  clear HP hP hdok E0 D0 N0 b0 E1 D1 N1 b1 E2 D2 N2 b2 E3 D3 N3 b3 E4 D4 N4 b4 E5 D5 N5 b5 hk t1 t2
  go_enter Tryd.func3, Tryd.ntmps3
  go_wp2_with fail
  refine (within_any _ 0 9999 _).mono ?_
  rw [wk0]
  rintro e w1 ⟨rfl, hq1⟩
  clear wk0
  go_wp2_with fail
  refine (within_any _ 0 99 _).mono ?_
  rw [wk1]
  rintro e w2 ⟨rfl, hq2⟩
  clear wk1
  go_wp2_with fail
  refine (within_any _ 0 99 _).mono ?_
  rw [wk2]
  rintro e w3 ⟨rfl, hq3⟩
  clear wk2
  go_wp2_with fail
  refine (within_any _ 0 99 _).mono ?_
  rw [wk3]
  rintro e w4 ⟨rfl, hq4⟩
  clear wk3
  go_wp2_with fail
  refine (within_any _ 0 99 _).mono ?_
  rw [wk4]
  rintro e w5 ⟨rfl, hq5⟩
  clear wk4
  go_wp2_with fail
  refine (within_any _ 0 99 _).mono ?_
  rw [wk5]
  rintro e w6 ⟨rfl, hq6⟩
  clear wk5
  have B6 := hide ((((((hq1.trans hq2).trans hq3).trans hq4).trans hq5).trans hq6).below w.heap.size)
  clear hq1 hq2 hq3 hq4 hq5 hq6
  go_wp2_with fail
  refine (G0.out _).mono ?_
  rintro e w7 ⟨rfl, hq⟩
  have B7 := hide (B6.out.trans (hq.mono B6.out.size))
  clear hq G0 B6
  go_wp2_with fail
  refine (G1.out _).mono ?_
  rintro e w8 ⟨rfl, hq⟩
  have B8 := hide (B7.out.trans (hq.mono B7.out.size))
  clear hq G1 B7
  go_wp2_with fail
  refine (G2.out _).mono ?_
  rintro e w9 ⟨rfl, hq⟩
  have B9 := hide (B8.out.trans (hq.mono B8.out.size))
  clear hq G2 B8
  go_wp2_with fail
  refine (G3.out _).mono ?_
  rintro e w10 ⟨rfl, hq⟩
  have B10 := hide (B9.out.trans (hq.mono B9.out.size))
  clear hq G3 B9
  go_wp2_with fail
  refine (G4.out _).mono ?_
  rintro e w11 ⟨rfl, hq⟩
  have B11 := hide (B10.out.trans (hq.mono B10.out.size))
  clear hq G4 B10
  go_wp2_with fail
  refine (G5.out _).mono ?_
  rintro e w12 ⟨rfl, hq⟩
  have B12 := hide (B11.out.trans (hq.mono B11.out.size))
  clear hq G5 B11
  go_wp2_with fail
  refine (S1.out _).mono ?_
  rintro e w13 ⟨rfl, hq⟩
  have B13 := hide (B12.out.trans (hq.mono B12.out.size))
  have HR := hide (RCell.new w13 0 0 0 0 0 0 0 [] 0 false 29)
  have ba : Below w13.heap.size w13 (w13.alloc (.cells #[.int .i64 0, .int .i64 0, .int .i64 0, .int .i64 0, .int .i64 0, .int .i64 0, .int .i64 0, .string ⟨[].toArray⟩, .int .i64 0, .bool false] 29)) := (Below.refl _ _).alloc (Nat.le_refl _) _
  have B14 := hide (B13.out.trans (ba.mono B13.out.size))
  clear hq S1 B12 B13 ba
  unfold parsedV
  unfold utcB at *
  go_wp2_with fail
  refine (S2.out _).mono ?_
  rintro e w15 ⟨rfl, hq⟩
  have B15 := hide (B14.out.trans (hq.mono B14.out.size))
  obtain ⟨⟨o0, o1, o2, o3, o4, o5, o6, o7, o8, -, -, -, -, -, -, -, -, -⟩, o9, -⟩ := HR.out.below hq
  clear hq S2 B14 HR
  unfold parsedV
  go_wp2_with fail
  refine (DK.out _).mono ?_
  rintro e w16 ⟨rfl, hq⟩
  have B16 := hide (B15.out.trans (hq.below _))
  have p0 := hq.cell o0
  have p1 := hq.cell o1
  have p2 := hq.cell o2
  have p3 := hq.cell o3
  have p4 := hq.cell o4
  have p5 := hq.cell o5
  have p6 := hq.cell o6
  have p7 := hq.cell o7
  have p8 := hq.cell o8
  have p9 := hq.cell o9
  clear hq DK B15 o0 o1 o2 o3 o4 o5 o6 o7 o8 o9
  go_wp2_with fail
  go_ret
  exact ⟨rfl, B16.out⟩

set_option maxRecDepth 100000 in
set_option maxHeartbeats 4000000 in
theorem strict_in_d (Y M D Hh I S : Nat) (b0 : Y ≤ 9999) (b1 : M ≤ 99) (b2 : D ≤ 99) (b3 : Hh ≤ 99) (b4 : I ≤ 99) (b5 : S ≤ 99) (hdok : Fs.dateOk (Y : Int) (M : Int) (D : Int) = true) (t1 : Hh ≤ 23) (t2 : I ≤ 59) (t3 : 59 < S) (w : World) :
    Calls Tryd.prog 3 #[.int .i64 (Y : Int), .int .i64 (M : Int), .int .i64 (D : Int), .int .i64 (Hh : Int), .int .i64 (I : Int), .int .i64 (S : Int)] w fun e w' => e = .returned (.bool true) ∧ Below w.heap.size w w' := by
  have wk0 : Fs.within (Y : Int) 0 9999 = true := Fs.within_iff.2 (by omega)
  have wk1 : Fs.within (M : Int) 0 99 = true := Fs.within_iff.2 (by omega)
  have wk2 : Fs.within (D : Int) 0 99 = true := Fs.within_iff.2 (by omega)
  have wk3 : Fs.within (Hh : Int) 0 99 = true := Fs.within_iff.2 (by omega)
  have wk4 : Fs.within (I : Int) 0 99 = true := Fs.within_iff.2 (by omega)
  have wk5 : Fs.within (S : Int) 0 99 = true := Fs.within_iff.2 (by omega)
  obtain ⟨y0, y1, y2, y3, E0, D0, N0⟩ := dg4_ex b0
  have G0 : Hid (∀ w, Calls Tryd.prog 7 #[.int .i64 (Y : Int), .int .i64 4] w fun e w' => e = .returned (.string ⟨#[y0, y1, y2, y3]⟩) ∧ Below w.heap.size w w') := by
    show ∀ w, _
    intro w
    have := Digits_any Y 4 (by omega) (by omega) w
    rw [E0] at this
    exact this
  obtain ⟨m0, m1, E1, D1, N1⟩ := dg2_ex b1
  have G1 : Hid (∀ w, Calls Tryd.prog 7 #[.int .i64 (M : Int), .int .i64 2] w fun e w' => e = .returned (.string ⟨#[m0, m1]⟩) ∧ Below w.heap.size w w') := by
    show ∀ w, _
    intro w
    have := Digits_any M 2 (by omega) (by omega) w
    rw [E1] at this
    exact this
  obtain ⟨d0, d1, E2, D2, N2⟩ := dg2_ex b2
  have G2 : Hid (∀ w, Calls Tryd.prog 7 #[.int .i64 (D : Int), .int .i64 2] w fun e w' => e = .returned (.string ⟨#[d0, d1]⟩) ∧ Below w.heap.size w w') := by
    show ∀ w, _
    intro w
    have := Digits_any D 2 (by omega) (by omega) w
    rw [E2] at this
    exact this
  obtain ⟨h0, h1, E3, D3, N3⟩ := dg2_ex b3
  have G3 : Hid (∀ w, Calls Tryd.prog 7 #[.int .i64 (Hh : Int), .int .i64 2] w fun e w' => e = .returned (.string ⟨#[h0, h1]⟩) ∧ Below w.heap.size w w') := by
    show ∀ w, _
    intro w
    have := Digits_any Hh 2 (by omega) (by omega) w
    rw [E3] at this
    exact this
  obtain ⟨i0, i1, E4, D4, N4⟩ := dg2_ex b4
  have G4 : Hid (∀ w, Calls Tryd.prog 7 #[.int .i64 (I : Int), .int .i64 2] w fun e w' => e = .returned (.string ⟨#[i0, i1]⟩) ∧ Below w.heap.size w w') := by
    show ∀ w, _
    intro w
    have := Digits_any I 2 (by omega) (by omega) w
    rw [E4] at this
    exact this
  obtain ⟨s0, s1, E5, D5, N5⟩ := dg2_ex b5
  have G5 : Hid (∀ w, Calls Tryd.prog 7 #[.int .i64 (S : Int), .int .i64 2] w fun e w' => e = .returned (.string ⟨#[s0, s1]⟩) ∧ Below w.heap.size w w') := by
    show ∀ w, _
    intro w
    have := Digits_any S 2 (by omega) (by omega) w
    rw [E5] at this
    exact this
  have HP := strict_text D0 D1 D2 D3 D4 D5 N0 N1 N2 N3 N4 N5
  have hk : Fs.okS Y M D Hh I S = false := by
    rw [Bool.eq_false_iff]
    intro hk
    have h1 := okS_iff.1 hk
    omega
  have hP := HP.1 hk
  have S1 := hide (fun w => Strict_no hP w)
  have S2 := hide (fun w => Strict_ok strict_few w)
  have FF := field_few
  have DK := hide (fun w => dateOk_any (Y : Int) (M : Int) (D : Int) w)
  rw [hdok] at DK
  have u1 : ¬ (23 : Int) < (Hh : Int) := by omega
  have u2 : ¬ (59 : Int) < (I : Int) := by omega
  have u3 : (59 : Int) < (S : Int) := by omega
  clear HP hP hdok E0 D0 N0 b0 E1 D1 N1 b1 E2 D2 N2 b2 E3 D3 N3 b3 E4 D4 N4 b4 E5 D5 N5 b5 hk t1 t2 t3
  go_enter Tryd.func3, Tryd.ntmps3
  go_wp2_with fail
  refine (within_any _ 0 9999 _).mono ?_
  rw [wk0]
  rintro e w1 ⟨rfl, hq1⟩
  clear wk0
  go_wp2_with fail
  refine (within_any _ 0 99 _).mono ?_
  rw [wk1]
  rintro e w2 ⟨rfl, hq2⟩
  clear wk1
  go_wp2_with fail
  refine (within_any _ 0 99 _).mono ?_
  rw [wk2]
  rintro e w3 ⟨rfl, hq3⟩
  clear wk2
  go_wp2_with fail
  refine (within_any _ 0 99 _).mono ?_
  rw [wk3]
  rintro e w4 ⟨rfl, hq4⟩
  clear wk3
  go_wp2_with fail
  refine (within_any _ 0 99 _).mono ?_
  rw [wk4]
  rintro e w5 ⟨rfl, hq5⟩
  clear wk4
  go_wp2_with fail
  refine (within_any _ 0 99 _).mono ?_
  rw [wk5]
  rintro e w6 ⟨rfl, hq6⟩
  clear wk5
  have B6 := hide ((((((hq1.trans hq2).trans hq3).trans hq4).trans hq5).trans hq6).below w.heap.size)
  clear hq1 hq2 hq3 hq4 hq5 hq6
  go_wp2_with fail
  refine (G0.out _).mono ?_
  rintro e w7 ⟨rfl, hq⟩
  have B7 := hide (B6.out.trans (hq.mono B6.out.size))
  clear hq G0 B6
  go_wp2_with fail
  refine (G1.out _).mono ?_
  rintro e w8 ⟨rfl, hq⟩
  have B8 := hide (B7.out.trans (hq.mono B7.out.size))
  clear hq G1 B7
  go_wp2_with fail
  refine (G2.out _).mono ?_
  rintro e w9 ⟨rfl, hq⟩
  have B9 := hide (B8.out.trans (hq.mono B8.out.size))
  clear hq G2 B8
  go_wp2_with fail
  refine (G3.out _).mono ?_
  rintro e w10 ⟨rfl, hq⟩
  have B10 := hide (B9.out.trans (hq.mono B9.out.size))
  clear hq G3 B9
  go_wp2_with fail
  refine (G4.out _).mono ?_
  rintro e w11 ⟨rfl, hq⟩
  have B11 := hide (B10.out.trans (hq.mono B10.out.size))
  clear hq G4 B10
  go_wp2_with fail
  refine (G5.out _).mono ?_
  rintro e w12 ⟨rfl, hq⟩
  have B12 := hide (B11.out.trans (hq.mono B11.out.size))
  clear hq G5 B11
  go_wp2_with fail
  refine (S1.out _).mono ?_
  rintro e w13 ⟨rfl, hq⟩
  have B13 := hide (B12.out.trans (hq.mono B12.out.size))
  have HR := hide (RCell.new w13 0 0 0 0 0 0 0 [] 0 false 29)
  have ba : Below w13.heap.size w13 (w13.alloc (.cells #[.int .i64 0, .int .i64 0, .int .i64 0, .int .i64 0, .int .i64 0, .int .i64 0, .int .i64 0, .string ⟨[].toArray⟩, .int .i64 0, .bool false] 29)) := (Below.refl _ _).alloc (Nat.le_refl _) _
  have B14 := hide (B13.out.trans (ba.mono B13.out.size))
  clear hq S1 B12 B13 ba
  unfold parsedV
  unfold utcB at *
  go_wp2_with fail
  refine (S2.out _).mono ?_
  rintro e w15 ⟨rfl, hq⟩
  have B15 := hide (B14.out.trans (hq.mono B14.out.size))
  obtain ⟨⟨o0, o1, o2, o3, o4, o5, o6, o7, o8, -, -, -, -, -, -, -, -, -⟩, o9, -⟩ := HR.out.below hq
  clear hq S2 B14 HR
  unfold parsedV
  go_wp2_with fail
  refine (DK.out _).mono ?_
  rintro e w16 ⟨rfl, hq⟩
  have B16 := hide (B15.out.trans (hq.below _))
  have p0 := hq.cell o0
  have p1 := hq.cell o1
  have p2 := hq.cell o2
  have p3 := hq.cell o3
  have p4 := hq.cell o4
  have p5 := hq.cell o5
  have p6 := hq.cell o6
  have p7 := hq.cell o7
  have p8 := hq.cell o8
  have p9 := hq.cell o9
  clear hq DK B15 o0 o1 o2 o3 o4 o5 o6 o7 o8 o9
  go_wp2_with fail
  go_ret
  exact ⟨rfl, B16.out⟩

set_option maxRecDepth 100000 in
set_option maxHeartbeats 4000000 in
theorem strict_in_e (Y M D Hh I S : Nat) (b0 : Y ≤ 9999) (b1 : M ≤ 99) (b2 : D ≤ 99) (b3 : Hh ≤ 99) (b4 : I ≤ 99) (b5 : S ≤ 99) (hdok : Fs.dateOk (Y : Int) (M : Int) (D : Int) = true) (t1 : Hh ≤ 23) (t2 : I ≤ 59) (t3 : S ≤ 59) (w : World) :
    Calls Tryd.prog 3 #[.int .i64 (Y : Int), .int .i64 (M : Int), .int .i64 (D : Int), .int .i64 (Hh : Int), .int .i64 (I : Int), .int .i64 (S : Int)] w fun e w' => e = .returned (.bool true) ∧ Below w.heap.size w w' := by
  have wk0 : Fs.within (Y : Int) 0 9999 = true := Fs.within_iff.2 (by omega)
  have wk1 : Fs.within (M : Int) 0 99 = true := Fs.within_iff.2 (by omega)
  have wk2 : Fs.within (D : Int) 0 99 = true := Fs.within_iff.2 (by omega)
  have wk3 : Fs.within (Hh : Int) 0 99 = true := Fs.within_iff.2 (by omega)
  have wk4 : Fs.within (I : Int) 0 99 = true := Fs.within_iff.2 (by omega)
  have wk5 : Fs.within (S : Int) 0 99 = true := Fs.within_iff.2 (by omega)
  obtain ⟨y0, y1, y2, y3, E0, D0, N0⟩ := dg4_ex b0
  have G0 : Hid (∀ w, Calls Tryd.prog 7 #[.int .i64 (Y : Int), .int .i64 4] w fun e w' => e = .returned (.string ⟨#[y0, y1, y2, y3]⟩) ∧ Below w.heap.size w w') := by
    show ∀ w, _
    intro w
    have := Digits_any Y 4 (by omega) (by omega) w
    rw [E0] at this
    exact this
  obtain ⟨m0, m1, E1, D1, N1⟩ := dg2_ex b1
  have G1 : Hid (∀ w, Calls Tryd.prog 7 #[.int .i64 (M : Int), .int .i64 2] w fun e w' => e = .returned (.string ⟨#[m0, m1]⟩) ∧ Below w.heap.size w w') := by
    show ∀ w, _
    intro w
    have := Digits_any M 2 (by omega) (by omega) w
    rw [E1] at this
    exact this
  obtain ⟨d0, d1, E2, D2, N2⟩ := dg2_ex b2
  have G2 : Hid (∀ w, Calls Tryd.prog 7 #[.int .i64 (D : Int), .int .i64 2] w fun e w' => e = .returned (.string ⟨#[d0, d1]⟩) ∧ Below w.heap.size w w') := by
    show ∀ w, _
    intro w
    have := Digits_any D 2 (by omega) (by omega) w
    rw [E2] at this
    exact this
  obtain ⟨h0, h1, E3, D3, N3⟩ := dg2_ex b3
  have G3 : Hid (∀ w, Calls Tryd.prog 7 #[.int .i64 (Hh : Int), .int .i64 2] w fun e w' => e = .returned (.string ⟨#[h0, h1]⟩) ∧ Below w.heap.size w w') := by
    show ∀ w, _
    intro w
    have := Digits_any Hh 2 (by omega) (by omega) w
    rw [E3] at this
    exact this
  obtain ⟨i0, i1, E4, D4, N4⟩ := dg2_ex b4
  have G4 : Hid (∀ w, Calls Tryd.prog 7 #[.int .i64 (I : Int), .int .i64 2] w fun e w' => e = .returned (.string ⟨#[i0, i1]⟩) ∧ Below w.heap.size w w') := by
    show ∀ w, _
    intro w
    have := Digits_any I 2 (by omega) (by omega) w
    rw [E4] at this
    exact this
  obtain ⟨s0, s1, E5, D5, N5⟩ := dg2_ex b5
  have G5 : Hid (∀ w, Calls Tryd.prog 7 #[.int .i64 (S : Int), .int .i64 2] w fun e w' => e = .returned (.string ⟨#[s0, s1]⟩) ∧ Below w.heap.size w w') := by
    show ∀ w, _
    intro w
    have := Digits_any S 2 (by omega) (by omega) w
    rw [E5] at this
    exact this
  have HP := strict_text D0 D1 D2 D3 D4 D5 N0 N1 N2 N3 N4 N5
  have hP := HP.2 (okS_iff.2 (by have := dateOk_iff.1 hdok; omega))
  have S1 := hide (fun w => Strict_ok hP w)
  have S2 := hide (fun w => Strict_ok strict_few w)
  have FF := field_few
  have DK := hide (fun w => dateOk_any (Y : Int) (M : Int) (D : Int) w)
  rw [hdok] at DK
  have u1 : ¬ (23 : Int) < (Hh : Int) := by omega
  have u2 : ¬ (59 : Int) < (I : Int) := by omega
  have u3 : ¬ (59 : Int) < (S : Int) := by omega
  clear HP hP hdok E0 D0 N0 b0 E1 D1 N1 b1 E2 D2 N2 b2 E3 D3 N3 b3 E4 D4 N4 b4 E5 D5 N5 b5 t1 t2 t3
  go_enter Tryd.func3, Tryd.ntmps3
  go_wp2_with fail
  refine (within_any _ 0 9999 _).mono ?_
  rw [wk0]
  rintro e w1 ⟨rfl, hq1⟩
  clear wk0
  go_wp2_with fail
  refine (within_any _ 0 99 _).mono ?_
  rw [wk1]
  rintro e w2 ⟨rfl, hq2⟩
  clear wk1
  go_wp2_with fail
  refine (within_any _ 0 99 _).mono ?_
  rw [wk2]
  rintro e w3 ⟨rfl, hq3⟩
  clear wk2
  go_wp2_with fail
  refine (within_any _ 0 99 _).mono ?_
  rw [wk3]
  rintro e w4 ⟨rfl, hq4⟩
  clear wk3
  go_wp2_with fail
  refine (within_any _ 0 99 _).mono ?_
  rw [wk4]
  rintro e w5 ⟨rfl, hq5⟩
  clear wk4
  go_wp2_with fail
  refine (within_any _ 0 99 _).mono ?_
  rw [wk5]
  rintro e w6 ⟨rfl, hq6⟩
  clear wk5
  have B6 := hide ((((((hq1.trans hq2).trans hq3).trans hq4).trans hq5).trans hq6).below w.heap.size)
  clear hq1 hq2 hq3 hq4 hq5 hq6
  go_wp2_with fail
  refine (G0.out _).mono ?_
  rintro e w7 ⟨rfl, hq⟩
  have B7 := hide (B6.out.trans (hq.mono B6.out.size))
  clear hq G0 B6
  go_wp2_with fail
  refine (G1.out _).mono ?_
  rintro e w8 ⟨rfl, hq⟩
  have B8 := hide (B7.out.trans (hq.mono B7.out.size))
  clear hq G1 B7
  go_wp2_with fail
  refine (G2.out _).mono ?_
  rintro e w9 ⟨rfl, hq⟩
  have B9 := hide (B8.out.trans (hq.mono B8.out.size))
  clear hq G2 B8
  go_wp2_with fail
  refine (G3.out _).mono ?_
  rintro e w10 ⟨rfl, hq⟩
  have B10 := hide (B9.out.trans (hq.mono B9.out.size))
  clear hq G3 B9
  go_wp2_with fail
  refine (G4.out _).mono ?_
  rintro e w11 ⟨rfl, hq⟩
  have B11 := hide (B10.out.trans (hq.mono B10.out.size))
  clear hq G4 B10
  go_wp2_with fail
  refine (G5.out _).mono ?_
  rintro e w12 ⟨rfl, hq⟩
  have B12 := hide (B11.out.trans (hq.mono B11.out.size))
  clear hq G5 B11
  go_wp2_with fail
  refine (S1.out _).mono ?_
  rintro e w13 ⟨rfl, hq⟩
  have B13 := hide (B12.out.trans (hq.mono B12.out.size))
  have HR := hide (RCell.new w13 (Y : Int) (M : Int) (D : Int) (Hh : Int) (I : Int) (S : Int) 0 utcB 0 true 29)
  have ba : Below w13.heap.size w13 (w13.alloc (.cells #[.int .i64 (Y : Int), .int .i64 (M : Int), .int .i64 (D : Int), .int .i64 (Hh : Int), .int .i64 (I : Int), .int .i64 (S : Int), .int .i64 0, .string ⟨utcB.toArray⟩, .int .i64 0, .bool true] 29)) := (Below.refl _ _).alloc (Nat.le_refl _) _
  have B14 := hide (B13.out.trans (ba.mono B13.out.size))
  clear hq S1 B12 B13 ba
  unfold parsedV
  unfold utcB at *
  go_wp2_with fail
  refine (S2.out _).mono ?_
  rintro e w15 ⟨rfl, hq⟩
  have B15 := hide (B14.out.trans (hq.mono B14.out.size))
  obtain ⟨⟨o0, o1, o2, o3, o4, o5, o6, o7, o8, -, -, -, -, -, -, -, -, -⟩, o9, -⟩ := HR.out.below hq
  clear hq S2 B14 HR
  unfold parsedV
  go_wp2_with fail
  refine (DK.out _).mono ?_
  rintro e w16 ⟨rfl, hq⟩
  have B16 := hide (B15.out.trans (hq.below _))
  have p0 := hq.cell o0
  have p1 := hq.cell o1
  have p2 := hq.cell o2
  have p3 := hq.cell o3
  have p4 := hq.cell o4
  have p5 := hq.cell o5
  have p6 := hq.cell o6
  have p7 := hq.cell o7
  have p8 := hq.cell o8
  have p9 := hq.cell o9
  clear hq DK B15 o0 o1 o2 o3 o4 o5 o6 o7 o8 o9
  go_wp2_with fail
  go_ret
  exact ⟨rfl, B16.out⟩

theorem law_FnExactStrict (y m d h mi s : Int) (w : World) (E : ErrsN w) :
    Calls Tryd.prog 3 #[.int .i64 y, .int .i64 m, .int .i64 d, .int .i64 h, .int .i64 mi, .int .i64 s] w fun e w' => e = .returned (.bool true) ∧ Below w.heap.size w w' := by
  generalize h0 : Fs.within y 0 9999 = b0
  cases b0
  · exact strict_out0 y m d h mi s h0 w
  generalize h1 : Fs.within m 0 99 = b1
  cases b1
  · exact strict_out1 y m d h mi s h0 h1 w
  generalize h2 : Fs.within d 0 99 = b2
  cases b2
  · exact strict_out2 y m d h mi s h0 h1 h2 w
  generalize h3 : Fs.within h 0 99 = b3
  cases b3
  · exact strict_out3 y m d h mi s h0 h1 h2 h3 w
  generalize h4 : Fs.within mi 0 99 = b4
  cases b4
  · exact strict_out4 y m d h mi s h0 h1 h2 h3 h4 w
  generalize h5 : Fs.within s 0 99 = b5
  cases b5
  · exact strict_out5 y m d h mi s h0 h1 h2 h3 h4 h5 w
  have g0 := Fs.within_iff.1 h0
  obtain ⟨Y, rfl⟩ : ∃ N : Nat, y = (N : Int) := ⟨y.toNat, by omega⟩
  have g1 := Fs.within_iff.1 h1
  obtain ⟨M, rfl⟩ : ∃ N : Nat, m = (N : Int) := ⟨m.toNat, by omega⟩
  have g2 := Fs.within_iff.1 h2
  obtain ⟨D, rfl⟩ : ∃ N : Nat, d = (N : Int) := ⟨d.toNat, by omega⟩
  have g3 := Fs.within_iff.1 h3
  obtain ⟨Hh, rfl⟩ : ∃ N : Nat, h = (N : Int) := ⟨h.toNat, by omega⟩
  have g4 := Fs.within_iff.1 h4
  obtain ⟨I, rfl⟩ : ∃ N : Nat, mi = (N : Int) := ⟨mi.toNat, by omega⟩
  have g5 := Fs.within_iff.1 h5
  obtain ⟨S, rfl⟩ : ∃ N : Nat, s = (N : Int) := ⟨s.toNat, by omega⟩
  generalize hd : Fs.dateOk (Y : Int) (M : Int) (D : Int) = b
  cases b
  · exact strict_in_a Y M D Hh I S (by omega) (by omega) (by omega) (by omega) (by omega) (by omega) hd w
  by_cases t1 : Hh ≤ 23
  · by_cases t2 : I ≤ 59
    · by_cases t3 : S ≤ 59
      · exact strict_in_e Y M D Hh I S (by omega) (by omega) (by omega) (by omega) (by omega) (by omega) hd t1 t2 t3 w
      · exact strict_in_d Y M D Hh I S (by omega) (by omega) (by omega) (by omega) (by omega) (by omega) hd t1 t2 (by omega) w
    · exact strict_in_c Y M D Hh I S (by omega) (by omega) (by omega) (by omega) (by omega) (by omega) hd t1 (by omega) w
  · exact strict_in_b Y M D Hh I S (by omega) (by omega) (by omega) (by omega) (by omega) (by omega) hd (by omega) w
end Go.Proofs.YtgcjhakhepgjlaaDoor
