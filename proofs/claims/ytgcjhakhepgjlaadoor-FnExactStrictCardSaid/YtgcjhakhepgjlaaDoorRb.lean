/-
  WALKS, the strict road, part b: a text of the form of RFC 3339, with Z, is read by the road of its own.
-/
import Derived.Test.YtgcjhakhepgjlaaDoorRa
import Derived.Deep.RegionHeld3
namespace Go.Proofs.YtgcjhakhepgjlaaDoor
open Go.RowKit
set_option linter.unusedVariables false
set_option linter.unusedSimpArgs false
attribute [local go_sem] ByteArray.extract_mk get_mk ByteArray.toList_mk ByteArray.mk_append_mk take_drop_len

theorem uval_bd {mn mx n : Nat} (h : mn ≤ mx) : mn ≤ Fs.uval mn mx n ∧ Fs.uval mn mx n ≤ mx := by
  unfold Fs.uval
  split <;> omega
theorem monthLen_bd (y : Int) (m : Nat) : Fs.monthLen y m ≤ 31 ∧ 28 ≤ Fs.monthLen y m := by
  unfold Fs.monthLen
  split
  · split <;> omega
  · split <;> omega

def timeZ : Value := .agg #[.int .u64 0, .int .i64 0, .pointer none]
def Fs.okS (NY NM ND NH NI NS : Nat) : Bool :=
  ((((((true && Fs.uok 0 9999 NY) && Fs.uok 1 12 NM) && Fs.uok 1 (Fs.monthLen (Fs.uval 0 9999 NY : Nat) (Fs.uval 1 12 NM)) ND) && Fs.uok 0 23 NH) && Fs.uok 0 59 NI) && Fs.uok 0 59 NS)
theorem okS_out {NY NM ND NH NI NS : Nat} (h : Fs.okS NY NM ND NH NI NS = true) :
    Fs.uval 0 9999 NY = NY ∧ NY ≤ 9999 ∧ Fs.uval 1 12 NM = NM ∧ 1 ≤ NM ∧ NM ≤ 12 ∧ Fs.uval 1 (Fs.monthLen (NY : Nat) NM) ND = ND ∧ 1 ≤ ND ∧ ND ≤ Fs.monthLen (NY : Nat) NM ∧ Fs.uval 0 23 NH = NH ∧ NH ≤ 23 ∧ Fs.uval 0 59 NI = NI ∧ NI ≤ 59 ∧ Fs.uval 0 59 NS = NS ∧ NS ≤ 59 := by
  unfold Fs.okS Fs.uok at h
  simp only [Bool.and_eq_true, decide_eq_true_iff, true_and] at h
  obtain ⟨⟨⟨⟨⟨h1, h2⟩, h3⟩, h4⟩, h5⟩, h6⟩ := h
  have e1 : Fs.uval 0 9999 NY = NY := by unfold Fs.uval; rw [if_pos h1]
  have e2 : Fs.uval 1 12 NM = NM := by unfold Fs.uval; rw [if_pos h2]
  rw [e1, e2] at h3
  refine ⟨e1, h1.2, e2, h2.1, h2.2, ?_, h3.1, h3.2, ?_, h4.2, ?_, h5.2, ?_, h6.2⟩
  · unfold Fs.uval; rw [if_pos h3]
  · unfold Fs.uval; rw [if_pos h4]
  · unfold Fs.uval; rw [if_pos h5]
  · unfold Fs.uval; rw [if_pos h6]
theorem PK.frozenk {w w' : World} {p q : Addr} {b : Bool} {v : Value} (h : PK w w' p b) (hq : w.cell? q = some v) (hne : q.block ≠ p.block) : w'.frozen? q = w.frozen? q :=
  World.frozen?_of_block (w := w) (h.grown.block _ (cell_lt hq) (fun e => hne (Option.some.inj e)))
theorem cells_z (w : World) (t t' : TypeId) : let w' := (w.alloc (.cells #[.int .u64 0, .int .i64 0, .pointer none] t)).alloc (.cells #[.bool true] t')
    w'.cell? ⟨w.heap.size, 0, none⟩ = some (.int .u64 0) ∧ w'.cell? ⟨w.heap.size, 1, none⟩ = some (.int .i64 0) ∧ w'.cell? ⟨w.heap.size, 2, none⟩ = some (.pointer none) ∧
    w'.frozen? ⟨w.heap.size, 0, none⟩ = false ∧ w'.frozen? ⟨w.heap.size, 1, none⟩ = false ∧ w'.frozen? ⟨w.heap.size, 2, none⟩ = false ∧ Below w.heap.size w w' := by
  refine ⟨?_, ?_, ?_, ?_, ?_, ?_, ((Below.refl _ _).alloc (Nat.le_refl _) _).alloc (by simp) _⟩ <;> go_simp
set_option maxRecDepth 100000 in
set_option maxHeartbeats 8000000 in
theorem p3339_any {y0 y1 y2 y3 m0 m1 d0 d1 h0 h1 i0 i1 s0 s1 : UInt8} (D1 : Hid (∀ c ∈ [y0, y1, y2, y3], Fs.isDig c = true)) (D2 : Hid (∀ c ∈ [m0, m1], Fs.isDig c = true)) (D3 : Hid (∀ c ∈ [d0, d1], Fs.isDig c = true)) (D4 : Hid (∀ c ∈ [h0, h1], Fs.isDig c = true)) (D5 : Hid (∀ c ∈ [i0, i1], Fs.isDig c = true)) (D6 : Hid (∀ c ∈ [s0, s1], Fs.isDig c = true)) (g : Nat) (w : World) (hU : UtcLoc w g) :
    Calls Tryd.prog 26 #[.string ⟨[y0, y1, y2, y3, 45, m0, m1, 45, d0, d1, 84, h0, h1, 58, i0, i1, 58, s0, s1, 90].toArray⟩, .pointer (some ⟨g, 0, none⟩)] w
      fun e w' => ((Fs.okS (Fs.nval [y0, y1, y2, y3] 0) (Fs.nval [m0, m1] 0) (Fs.nval [d0, d1] 0) (Fs.nval [h0, h1] 0) (Fs.nval [i0, i1] 0) (Fs.nval [s0, s1] 0) = false ∧ e = .returned (.tuple #[timeZ, .bool false])) ∨
        (Fs.okS (Fs.nval [y0, y1, y2, y3] 0) (Fs.nval [m0, m1] 0) (Fs.nval [d0, d1] 0) (Fs.nval [h0, h1] 0) (Fs.nval [i0, i1] 0) (Fs.nval [s0, s1] 0) = true ∧ ∃ v, e = .returned (.tuple #[v, .bool true]) ∧
          Told w' v (Fs.nval [y0, y1, y2, y3] 0) (Fs.nval [m0, m1] 0) (Fs.nval [d0, d1] 0) (Fs.nval [h0, h1] 0) (Fs.nval [i0, i1] 0) (Fs.nval [s0, s1] 0) 0 utcB 0)) ∧ Below w.heap.size w w' := by
  have C1 := hide (fun w' b => puint_any [y0, y1, y2, y3] (by simp) D1.out 0 9999 (by omega) (by omega) (w.heap.size + 1) b w')
  have C2 := hide (fun w' b => puint_any [m0, m1] (by simp) D2.out 1 12 (by omega) (by omega) (w.heap.size + 1) b w')
  have C3 := hide (fun mx hm w' b => puint_any [d0, d1] (by simp) D3.out 1 mx (by omega) hm (w.heap.size + 1) b w')
  have C4 := hide (fun w' b => puint_any [h0, h1] (by simp) D4.out 0 23 (by omega) (by omega) (w.heap.size + 1) b w')
  have C5 := hide (fun w' b => puint_any [i0, i1] (by simp) D5.out 0 59 (by omega) (by omega) (w.heap.size + 1) b w')
  have C6 := hide (fun w' b => puint_any [s0, s1] (by simp) D6.out 0 59 (by omega) (by omega) (w.heap.size + 1) b w')
  clear D1 D2 D3 D4 D5 D6
  go_enter Tryd.func26, Tryd.ntmps26
  go_wp2_with fail
  refine (C1.out _ true (by go_simp) (by go_simp)).mono ?_
  rintro e w1 ⟨rfl, HP⟩
  have P1 := hide HP
  clear HP C1
  go_wp2_with fail
  refine (C2.out _ _ P1.out.cell P1.out.frozen).mono ?_
  rintro e w2 ⟨rfl, HP⟩
  have P2 := hide (P1.out.trans HP)
  clear HP P1 C2
  go_wp2_with fail
  have B1 := monthLen_bd (Fs.uval 0 9999 (Fs.nval [y0, y1, y2, y3] 0)) (Fs.uval 1 12 (Fs.nval [m0, m1] 0))
  have C7 := hide (fun w' => daysIn_any (Fs.uval 1 12 (Fs.nval [m0, m1] 0)) (Fs.uval 0 9999 (Fs.nval [y0, y1, y2, y3] 0)) (uval_bd (by omega)).1 (uval_bd (by omega)).2 (Nat.le_trans (uval_bd (mn := 0) (mx := 9999) (by omega)).2 (by omega)) w')
  obtain ⟨ML, hML⟩ : ∃ n, n = Fs.monthLen (Fs.uval 0 9999 (Fs.nval [y0, y1, y2, y3] 0)) (Fs.uval 1 12 (Fs.nval [m0, m1] 0)) := ⟨_, rfl⟩
  rw [← hML] at B1 C7
  have HML := hide hML
  clear hML
  go_region_held3 (fun _ => True)
    (exact trivial)
    (first
      | (go_at_call 41; refine (C7.out _).mono ?_; rintro e w3 ⟨rfl, hq⟩; have P3 := hide (P2.out.below (((Below.refl _ _).drew).trans (hq.below _))); clear hq)
      | (go_at_call 40; refine (C3.out ML (by omega) _ _ P3.out.cell P3.out.frozen).mono ?_; rintro e w4 ⟨rfl, HP⟩; have P4 := hide (P3.out.trans HP); clear HP))
  go_wp2_with fail
  refine (C4.out _ _ P4.out.cell P4.out.frozen).mono ?_
  rintro e w5 ⟨rfl, HP⟩
  have P5 := hide (P4.out.trans HP)
  clear HP P4 C4 C3 C7 P3 P2
  go_wp2_with fail
  refine (C5.out _ _ P5.out.cell P5.out.frozen).mono ?_
  rintro e w6 ⟨rfl, HP⟩
  have P6 := hide (P5.out.trans HP)
  clear HP P5 C5
  go_wp2_with fail
  refine (C6.out _ _ P6.out.cell P6.out.frozen).mono ?_
  rintro e w7 ⟨rfl, HP⟩
  obtain ⟨B, hB, P7⟩ : ∃ B, _ = B ∧ PK _ w7 ⟨w.heap.size + 1, 0, none⟩ B := ⟨_, rfl, P6.out.trans HP⟩
  have HB : Hid (Fs.okS (Fs.nval [y0, y1, y2, y3] 0) (Fs.nval [m0, m1] 0) (Fs.nval [d0, d1] 0) (Fs.nval [h0, h1] 0) (Fs.nval [i0, i1] 0) (Fs.nval [s0, s1] 0) = B) := by
    show _ = _
    rw [← hB, HML.out]
    rfl
  clear hB HP P6 C6
  obtain ⟨z0, z1, z2, f0, f1, f2, hbw⟩ := cells_z w 41 4
  have c0 := P7.cellk z0 (by simp)
  have c1 := P7.cellk z1 (by simp)
  have c2 := P7.cellk z2 (by simp)
  have g0 := (P7.frozenk z0 (by simp)).trans f0
  have g1 := (P7.frozenk z1 (by simp)).trans f1
  have g2 := (P7.frozenk z2 (by simp)).trans f2
  have cB := P7.cell
  have bW := hide (hbw.trans (P7.to_below (base := w.heap.size) (by simp; omega) (by simp)))
  clear z0 z1 z2 f0 f1 f2 hbw P7
  cases B
  · go_wp2_with fail
    refine bodyPost_ret (v := .tuple #[timeZ, .bool false]) ?_ rfl ?_
    · simp [results, Tryd.results26, go_sem, timeZ, c0, c1, c2]
    · exact ⟨.inl ⟨HB.out, rfl⟩, ((bW.out.setCell (Nat.le_refl _) _).setCell (Nat.le_refl _) _).setCell (Nat.le_refl _) _⟩
  · obtain ⟨a1, a2, a3, a4, a5, a6, a7, a8, a9, a10, a11, a12, a13, a14⟩ := okS_out HB.out
    have hdd : Fs.uval 1 ML (Fs.nval [d0, d1] 0) = Fs.nval [d0, d1] 0 := by rw [HML.out, a1, a3]; exact a6
    have HV : Hid (Fs.Valid (Fs.nval [y0, y1, y2, y3] 0 : Nat) (Fs.nval [m0, m1] 0) (Fs.nval [d0, d1] 0)) := ⟨a4, a5, a7, a8, by omega, by omega⟩
    have HC : Hid (Fs.VClock (Fs.nval [h0, h1] 0) (Fs.nval [i0, i1] 0) (Fs.nval [s0, s1] 0) 0) := ⟨a10, a12, a14, by omega⟩
    clear a2 a4 a5 a6 a7 a8 a10 a12 a14
    go_wp2_with fail
    refine (UTC_any _).mono ?_
    rintro e w8 ⟨rfl, hU8, hb8⟩
    have hU9 := hide hU8
    have b8 := hide (bW.out.trans (hb8.mono bW.out.size))
    have c0' := Below.cellk hb8 c0
    have c1' := Below.cellk hb8 c1
    have c2' := Below.cellk hb8 c2
    have g0' := (hb8.frozen (cell_lt c0)).trans g0
    have g1' := (hb8.frozen (cell_lt c1)).trans g1
    have g2' := (hb8.frozen (cell_lt c2)).trans g2
    clear hU8 hb8 c0 c1 c2 g0 g1 g2 bW cB
    go_wp2_with fail
    refine (Date_utc (y := ((Fs.nval [y0, y1, y2, y3] 0 : Nat) : Int)) (ns := 0) HV.out.y1 HV.out.y2 HV.out.m1 HV.out.m2 HV.out.d1 HV.out.d31 HC.out _ _ hU9.out).mono ?_
    rintro e w9 ⟨rfl, hb9⟩
    unfold timeV
    have b9 := hide (b8.out.trans (hb9.mono b8.out.size))
    have c0 := Below.cellk hb9 c0'
    have c1 := Below.cellk hb9 c1'
    have c2 := Below.cellk hb9 c2'
    have g0 := (hb9.frozen (cell_lt c0')).trans g0'
    have g1 := (hb9.frozen (cell_lt c1')).trans g1'
    have g2 := (hb9.frozen (cell_lt c2')).trans g2'
    clear hU9 hb9 c0' c1' c2' g0' g1' g2' b8
    have hlt : w.heap.size < w9.heap.size := cell_lt c0
    go_wp2_with fail
    obtain ⟨X, hX⟩ : ∃ X, X = Fs.isecs (Fs.nval [y0, y1, y2, y3] 0 : Nat) (Fs.nval [m0, m1] 0) (Fs.nval [d0, d1] 0) (Fs.nval [h0, h1] 0) (Fs.nval [i0, i1] 0) (Fs.nval [s0, s1] 0) := ⟨_, rfl⟩
    rw [← hX]
    have hW : Below w.heap.size w (((w9.setCell ⟨w.heap.size, 0, none⟩ (.int .u64 0)).setCell ⟨w.heap.size, 1, none⟩ (.int .i64 X)).setCell ⟨w.heap.size, 2, none⟩ (.pointer none)) :=
      ((b9.out.setCell (Nat.le_refl _) _).setCell (Nat.le_refl _) _).setCell (Nat.le_refl _) _
    have d0 : ((((w9.setCell ⟨w.heap.size, 0, none⟩ (.int .u64 0)).setCell ⟨w.heap.size, 1, none⟩ (.int .i64 X)).setCell ⟨w.heap.size, 2, none⟩ (.pointer none)).alloc (.cells #[.int .u64 0, .int .i64 X, .pointer none] 41)).cell? ⟨w.heap.size, 0, none⟩ = some (.int .u64 0) := by go_simp
    have d1 : ((((w9.setCell ⟨w.heap.size, 0, none⟩ (.int .u64 0)).setCell ⟨w.heap.size, 1, none⟩ (.int .i64 X)).setCell ⟨w.heap.size, 2, none⟩ (.pointer none)).alloc (.cells #[.int .u64 0, .int .i64 X, .pointer none] 41)).cell? ⟨w.heap.size, 1, none⟩ = some (.int .i64 X) := by go_simp
    have d2 : ((((w9.setCell ⟨w.heap.size, 0, none⟩ (.int .u64 0)).setCell ⟨w.heap.size, 1, none⟩ (.int .i64 X)).setCell ⟨w.heap.size, 2, none⟩ (.pointer none)).alloc (.cells #[.int .u64 0, .int .i64 X, .pointer none] 41)).cell? ⟨w.heap.size, 2, none⟩ = some (.pointer none) := by go_simp
    refine bodyPost_ret (v := .tuple #[timeV 0 X (.pointer none), .bool true]) ?_ rfl ?_
    · simp [results, Tryd.results26, go_sem, timeV, d0, d1, d2]
    · exact ⟨.inr ⟨HB.out, _, rfl, ⟨⟨.pointer none, by rw [Int.sub_zero, hX], .inl ⟨rfl, rfl, rfl⟩⟩, HV.out, HC.out, by omega, by omega⟩⟩, hW.alloc hW.size _⟩
end Go.Proofs.YtgcjhakhepgjlaaDoor
