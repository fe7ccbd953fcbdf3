/-
  WALKS, the strict road, part a: leap years, the days of a month, the closure that reads a number.
-/
import Derived.Test.YtgcjhakhepgjlaaDoorT1
import Derived.Test.YtgcjhakhepgjlaaDoorRow
import Derived.Test.YtgcjhakhepgjlaaDoorWn
namespace Go.Proofs.YtgcjhakhepgjlaaDoor
open Go.RowKit
set_option linter.unusedVariables false
set_option linter.unusedSimpArgs false
attribute [local go_sem] ByteArray.extract_mk get_mk ByteArray.toList_mk ByteArray.mk_append_mk take_drop_len

namespace Fs
theorem and_15 (n : Nat) : n &&& 15 = n % 16 := Nat.and_two_pow_sub_one_eq_mod n 4
theorem and_3 (n : Nat) : n &&& 3 = n % 4 := Nat.and_two_pow_sub_one_eq_mod n 2
theorem leap_mask {y : Nat} : Fs.leap (y : Int) = if y % 25 = 0 then decide (y % 16 = 0) else decide (y % 4 = 0) := by
  unfold Fs.leap
  by_cases h25 : y % 25 = 0
  · rw [if_pos h25]
    by_cases h16 : y % 16 = 0
    · have a : ((y : Int) % 4 == 0) = true := by rw [beq_iff_eq]; omega
      have b : ((y : Int) % 400 == 0) = true := by rw [beq_iff_eq]; omega
      simp [a, b, h16]
    · have b : ((y : Int) % 400 == 0) = false := by rw [beq_eq_false_iff_ne]; omega
      by_cases h4 : y % 4 = 0
      · have c : ((y : Int) % 100 != 0) = false := by rw [bne_eq_false_iff_eq]; omega
        simp [b, c, h16]
      · have a : ((y : Int) % 4 == 0) = false := by rw [beq_eq_false_iff_ne]; omega
        simp [a, h16]
  · rw [if_neg h25]
    have c : ((y : Int) % 100 != 0) = true := by rw [bne_iff_ne]; omega
    by_cases h4 : y % 4 = 0
    · have a : ((y : Int) % 4 == 0) = true := by rw [beq_iff_eq]; omega
      simp [a, c, h4]
    · have a : ((y : Int) % 4 == 0) = false := by rw [beq_eq_false_iff_ne]; omega
      simp [a, h4]
/-- the number of a text of digits -/
def nval (l : List UInt8) (x : Nat) : Nat := match l with | [] => x | c :: r => nval r (x * 10 + (c.toNat - 48))
def uok (mn mx : Nat) (n : Nat) : Bool := decide (mn ≤ n ∧ n ≤ mx)
def uval (mn mx : Nat) (n : Nat) : Nat := if mn ≤ n ∧ n ≤ mx then n else mn
end Fs

theorem isLeap_any (y : Nat) (hy : y ≤ 1000000) (w : World) : Calls Tryd.prog 61 #[.int .i64 (y : Nat)] w fun e w' => e = .returned (.bool (Fs.leap y)) ∧ Qt w w' := by
  have HL := hide (Fs.leap_mask (y := y))
  by_cases h : y % 25 = 0
  · have h0 : ((y : Int) % 25 != 0) = false := by rw [bne_eq_false_iff_eq]; omega
    have HX : Hid (Fs.leap y = ((((y % 16 : Nat)) : Int) == 0)) := by
      show _ = _
      rw [HL.out, if_pos h]
      rw [Bool.eq_iff_iff, decide_eq_true_iff, beq_iff_eq]
      omega
    have hb : bits BinOp.and IntKind.i64 (y : Int) 15 = ((y % 16 : Nat) : Int) := by rw [← Fs.and_15]; exact i64_and_nat y 15 (by omega) (by omega)
    clear HL h
    go_enter Tryd.func61, Tryd.ntmps61
    go_wp2_with fail
    go_ret
    exact ⟨ret_bool HX.out.symm, Qt.refl _⟩
  · have h0 : ((y : Int) % 25 != 0) = true := by rw [bne_iff_ne]; omega
    have HX : Hid (Fs.leap y = ((((y % 4 : Nat)) : Int) == 0)) := by
      show _ = _
      rw [HL.out, if_neg h]
      rw [Bool.eq_iff_iff, decide_eq_true_iff, beq_iff_eq]
      omega
    have hb : bits BinOp.and IntKind.i64 (y : Int) 3 = ((y % 4 : Nat) : Int) := by rw [← Fs.and_3]; exact i64_and_nat y 3 (by omega) (by omega)
    clear HL h
    go_enter Tryd.func61, Tryd.ntmps61
    go_wp2_with fail
    go_ret
    exact ⟨ret_bool HX.out.symm, Qt.refl _⟩
theorem and1_1 : bits BinOp.and IntKind.i64 1 1 = 1 := (i64_and_nat 1 1 (by omega) (by omega)).trans rfl
theorem and1_3 : bits BinOp.and IntKind.i64 3 1 = 1 := (i64_and_nat 3 1 (by omega) (by omega)).trans rfl
theorem and1_4 : bits BinOp.and IntKind.i64 4 1 = 0 := (i64_and_nat 4 1 (by omega) (by omega)).trans rfl
theorem and1_5 : bits BinOp.and IntKind.i64 5 1 = 1 := (i64_and_nat 5 1 (by omega) (by omega)).trans rfl
theorem and1_6 : bits BinOp.and IntKind.i64 6 1 = 0 := (i64_and_nat 6 1 (by omega) (by omega)).trans rfl
theorem and1_7 : bits BinOp.and IntKind.i64 7 1 = 1 := (i64_and_nat 7 1 (by omega) (by omega)).trans rfl
theorem and1_9 : bits BinOp.and IntKind.i64 9 1 = 1 := (i64_and_nat 9 1 (by omega) (by omega)).trans rfl
theorem and1_10 : bits BinOp.and IntKind.i64 10 1 = 0 := (i64_and_nat 10 1 (by omega) (by omega)).trans rfl
theorem and1_11 : bits BinOp.and IntKind.i64 11 1 = 1 := (i64_and_nat 11 1 (by omega) (by omega)).trans rfl
theorem and1_12 : bits BinOp.and IntKind.i64 12 1 = 0 := (i64_and_nat 12 1 (by omega) (by omega)).trans rfl
theorem and1_13 : bits BinOp.and IntKind.i64 13 1 = 1 := (i64_and_nat 13 1 (by omega) (by omega)).trans rfl
theorem daysIn_any (m y : Nat) (m1 : 1 ≤ m) (m2 : m ≤ 12) (hy : y ≤ 1000000) (w : World) :
    Calls Tryd.prog 41 #[.int .i64 (m : Nat), .int .i64 (y : Nat)] w fun e w' => e = .returned (.int .i64 (Fs.monthLen y m : Nat)) ∧ Qt w w' := by
  have hm : m = 1 ∨ m = 2 ∨ m = 3 ∨ m = 4 ∨ m = 5 ∨ m = 6 ∨ m = 7 ∨ m = 8 ∨ m = 9 ∨ m = 10 ∨ m = 11 ∨ m = 12 := by omega
  clear m1 m2
  by_cases h2 : m = 2
  · subst h2
    clear hm
    generalize hb : Fs.leap y = b
    cases b
    · have HX : Hid (Fs.monthLen y 2 = 28) := by show _ = _; simp [Fs.monthLen, hb]
      go_enter Tryd.func41, Tryd.ntmps41
      go_wp2_with fail
      refine (isLeap_any y hy _).mono ?_
      rw [hb]
      rintro e w2 ⟨rfl, hq⟩
      clear hb
      go_wp2_with fail
      go_ret
      exact ⟨ret_int (by rw [HX.out]; rfl), hq⟩
    · have HX : Hid (Fs.monthLen y 2 = 29) := by show _ = _; simp [Fs.monthLen, hb]
      go_enter Tryd.func41, Tryd.ntmps41
      go_wp2_with fail
      refine (isLeap_any y hy _).mono ?_
      rw [hb]
      rintro e w2 ⟨rfl, hq⟩
      clear hb
      go_wp2_with fail
      go_ret
      exact ⟨ret_int (by rw [HX.out]; rfl), hq⟩
  · rcases hm with rfl | rfl | rfl | rfl | rfl | rfl | rfl | rfl | rfl | rfl | rfl | rfl
    case inr.inl => exact absurd rfl h2
    all_goals
      clear h2
      go_enter Tryd.func41, Tryd.ntmps41
      go_wp2_with fail
      go_ret
      exact ⟨ret_int (by unfold Fs.monthLen; simp only [Nat.reduceEqDiff, if_false, if_true, false_or, or_false, true_or, or_true, and1_1, and1_3, and1_4, and1_5, and1_6, and1_7, and1_9, and1_10, and1_11, and1_12, and1_13]; unfold wrap64; omega), Qt.refl _⟩

/-- the cell p holds the bool b; beside its block, and what is new, nothing has turned -/
structure PK (w w' : World) (p : Addr) (b : Bool) : Prop where
  grown : w.grownBy w' (some p.block)
  cell : w'.cell? p = some (.bool b)
  frozen : w'.frozen? p = false
theorem PK.trans {w w1 w2 : World} {p : Addr} {b1 b2 : Bool} (h : PK w w1 p b1) (k : PK w1 w2 p b2) : PK w w2 p b2 :=
  ⟨⟨k.grown.os.trans h.grown.os, k.grown.tape.trans h.grown.tape, k.grown.output.trans h.grown.output, Nat.le_trans h.grown.size k.grown.size,
    fun i hi hne => (k.grown.block i (Nat.lt_of_lt_of_le hi h.grown.size) hne).trans (h.grown.block i hi hne)⟩, k.cell, k.frozen⟩
theorem PK.refl {w : World} {p : Addr} {b : Bool} (hc : w.cell? p = some (.bool b)) (hf : w.frozen? p = false) : PK w w p b := ⟨World.grownBy.refl w _, hc, hf⟩
theorem PK.below {w w1 w2 : World} {p : Addr} {b : Bool} (h : PK w w1 p b) (hb : Below w1.heap.size w1 w2) : PK w w2 p b :=
  h.trans ⟨⟨hb.os, hb.tape, hb.output, hb.size, fun i hi _ => hb.block i hi⟩, Below.cellk hb h.cell, (hb.frozen (cell_lt h.cell)).trans h.frozen⟩
theorem PK.cellk {w w' : World} {p q : Addr} {b : Bool} {v : Value} (h : PK w w' p b) (hq : w.cell? q = some v) (hne : q.block ≠ p.block) : w'.cell? q = some v :=
  (World.cell?_of_block (w := w) (h.grown.block _ (cell_lt hq) (fun e => hne (Option.some.inj e)))).trans hq
theorem PK.to_below {w w' : World} {p : Addr} {b : Bool} (h : PK w w' p b) {base : Nat} (hb : base ≤ w.heap.size) (hp : base ≤ p.block) : Below base w w' :=
  (Below.refl base w).grown h.grown hb (fun k e => by obtain rfl := Option.some.inj e; exact hp)
theorem PK.weak {w w' : World} {p : Addr} {b b' : Bool} (h : PK w w' p b) (e : b' = b) : PK w w' p b' := e ▸ h
theorem PK.drewN {w w' : World} {p : Addr} {b : Bool} (h : PK w w' p b) (m : Nat) : PK w (w'.drewN m) p b := h.below (Qt.below ⟨m, rfl⟩ _)
theorem PK.setp {w w' : World} {q : Nat} {b : Bool} (h : PK w w' ⟨q, 0, none⟩ b) (b' : Bool) : PK w (w'.setCell ⟨q, 0, none⟩ (.bool b')) ⟨q, 0, none⟩ b' := by
  refine ⟨⟨h.grown.os, h.grown.tape, h.grown.output, by simpa [World.setCell] using h.grown.size, fun i hi hne => ?_⟩, ?_, ?_⟩
  · exact (Below.heap_setCell w' ⟨q, 0, none⟩ _ i (fun e => hne (by rw [e]))).trans (h.grown.block i hi hne)
  · have := h.cell
    go_simp
  · have := h.frozen
    rw [World.frozen?_setCell]
    exact this
theorem PK.set {w w' : World} {q : Nat} {b : Bool} (h : PK w w' ⟨q, 0, none⟩ b) (m : Nat) : PK w ((w'.drewN m).setCell ⟨q, 0, none⟩ (.bool false)) ⟨q, 0, none⟩ false := (h.drewN m).setp false
theorem digc_bd {c : UInt8} (h : Fs.isDig c = true) : 48 ≤ c.toNat ∧ c.toNat ≤ 57 := by
  have := (Fs.isDig_iff c).1 h
  omega
theorem nval_step {l : List UInt8} {i : Nat} (h : i < l.length) (x : Nat) : Fs.nval (l.drop i) x = Fs.nval (l.drop (i + 1)) (x * 10 + ((l[i]).toNat - 48)) := by
  rw [List.drop_eq_getElem_cons h, Fs.nval]
theorem pow_bd {i : Nat} (h : i < 4) : 10 ^ i ≤ 1000 := Nat.le_trans (Nat.pow_le_pow_right (by omega) (show i ≤ 3 by omega)) (by decide)

set_option maxRecDepth 100000 in
set_option maxHeartbeats 4000000 in
theorem puint_any (l : List UInt8) (hl : l.length ≤ 4) (hd : ∀ c ∈ l, Fs.isDig c = true) (mn mx : Nat) (h1 : mn ≤ 10000) (h2 : mx ≤ 10000) (q : Nat) (b : Bool) (w : World)
    (hp : w.cell? ⟨q, 0, none⟩ = some (.bool b)) (hf : w.frozen? ⟨q, 0, none⟩ = false) :
    Calls Tryd.prog 40 #[.string ⟨l.toArray⟩, .int .i64 (mn : Nat), .int .i64 (mx : Nat), .pointer (some ⟨q, 0, none⟩)] w
      fun e w' => e = .returned (.int .i64 (Fs.uval mn mx (Fs.nval l 0) : Nat)) ∧ PK w w' ⟨q, 0, none⟩ (b && Fs.uok mn mx (Fs.nval l 0)) := by
  obtain ⟨g, cap, W, hcv, hrow, hbel⟩ := bytes_row (P := Tryd.prog) w 9 47 5 l (by simp [maxLen]; omega) Tryd.underlying9 Tryd.underlying47 Tryd.underlying5
  have HP := hide ((PK.refl hp hf).below hbel)
  have HC := hide hrow.cells
  have HD := hide hd
  clear hrow hbel hp hf hd
  go_enter Tryd.func40, Tryd.ntmps40
  go_wp2_with fail
  go_loopw [7, 9, 13] (fun x c i wr => ∃ (k n : Nat) (u : Value), k ≤ l.length ∧ i = .int .i64 (k : Nat) ∧ x = .int .i64 (n : Nat) ∧ c = u ∧ n < 10 ^ k ∧ Hid (Fs.nval (l.drop k) n = Fs.nval l 0) ∧ Qt W wr)
    (fun _ _ i _ => l.length - (intOf i).toNat)
  case atStart => exact ⟨0, 0, _, Nat.zero_le _, rfl, rfl, rfl, by simp, by show _ = _; rfl, Qt.refl _⟩
  case round =>
    obtain ⟨k, n, u, hk, rfl, rfl, rfl, hn, HV, hq⟩ := hrel
    by_cases hlt : k < l.length
    · have hlt' : (k : Int) < (l.length : Int) := by omega
      have hc := hq.cell (HC.out k hlt)
      rw [Nat.zero_add] at hc
      have HV2 : Hid (Fs.nval (l.drop (k + 1)) (n * 10 + ((l[k]).toNat - 48)) = Fs.nval l 0) := by show _ = _; rw [← nval_step hlt]; exact HV.out
      have hdig := digc_bd (HD.out _ (List.getElem_mem hlt))
      generalize hcc : l[k] = c at hc HV2 hdig
      have hpw := pow_bd (show k < 4 by omega)
      have e1 : ((c.toNat : Int) < 48) = False := by simp; omega
      have e2 : ((57 : Int) < (c.toNat : Int)) = False := by simp; omega
      clear hcc HV HC HD HP
      go_wp2_with fail
      go_roundw
      case rel => exact ⟨k + 1, n * 10 + (c.toNat - 48), _, by omega, by go_num, by go_num, rfl, by rw [Nat.pow_succ]; omega, HV2, hq⟩
      case measure => simp [intOf]; omega
    · have hkl : k = l.length := by omega
      subst hkl
      have HN : Hid (Fs.nval l 0 = n) := by
        have := HV.out
        rw [List.drop_length] at this
        exact this.symm
      clear HV HC HD hlt hk hcv
      obtain ⟨m, rfl⟩ := hq
      have hp := HP.out.cell
      have hf := HP.out.frozen
      by_cases c1 : n < mn
      · have d1 : ((n : Int) < (mn : Int)) = True := by simp; omega
        have HU : Hid (Fs.uval mn mx (Fs.nval l 0) = mn) := by show _ = _; rw [HN.out, Fs.uval, if_neg (by omega)]
        have HO : Hid (Fs.uok mn mx (Fs.nval l 0) = false) := by show _ = _; rw [HN.out, Fs.uok, decide_eq_false_iff_not]; omega
        clear c1 HN
        go_wp2_with fail
        go_ret
        exact ⟨ret_int (by rw [HU.out]), (PK.set HP.out m).weak (by rw [HO.out, Bool.and_false])⟩
      by_cases c2 : mx < n
      · have d1 : ((n : Int) < (mn : Int)) = False := by simp; omega
        have d2 : ((mx : Int) < (n : Int)) = True := by simp; omega
        have HU : Hid (Fs.uval mn mx (Fs.nval l 0) = mn) := by show _ = _; rw [HN.out, Fs.uval, if_neg (by omega)]
        have HO : Hid (Fs.uok mn mx (Fs.nval l 0) = false) := by show _ = _; rw [HN.out, Fs.uok, decide_eq_false_iff_not]; omega
        clear c1 c2 HN
        go_wp2_with fail
        go_ret
        exact ⟨ret_int (by rw [HU.out]), (PK.set HP.out m).weak (by rw [HO.out, Bool.and_false])⟩
      · have d1 : ((n : Int) < (mn : Int)) = False := by simp; omega
        have d2 : ((mx : Int) < (n : Int)) = False := by simp; omega
        have HU : Hid (Fs.uval mn mx (Fs.nval l 0) = n) := by show _ = _; rw [HN.out, Fs.uval, if_pos (by omega)]
        have HO : Hid (Fs.uok mn mx (Fs.nval l 0) = true) := by show _ = _; rw [HN.out, Fs.uok, decide_eq_true_iff]; omega
        clear c1 c2 HN
        go_wp2_with fail
        go_ret
        exact ⟨ret_int (by rw [HU.out]), (PK.drewN HP.out m).weak (by rw [HO.out, Bool.and_true])⟩
end Go.Proofs.YtgcjhakhepgjlaaDoor
