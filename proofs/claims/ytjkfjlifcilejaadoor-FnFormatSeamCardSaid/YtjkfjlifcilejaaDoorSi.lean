/-
  WALKS, the reference's Fits (printed by wip/py/gen_fits.py).
-/
import Derived.Test.YtjkfjlifcilejaaDoorS2
namespace Go.Proofs.YtjkfjlifcilejaaDoor
open Go.RowKit
set_option linter.unusedVariables false
set_option linter.unusedSimpArgs false
attribute [local go_sem] ByteArray.extract_mk get_mk ByteArray.toList_mk ByteArray.mk_append_mk take_drop_len

namespace Fs
/-- can the offset be told by this piece? -/
def fitP (off : Int) (p : Piece) : Bool := if p.kind = 24 ∨ p.kind = 29 then off % 3600 == 0 else if p.kind = 22 ∨ p.kind = 23 ∨ p.kind = 27 ∨ p.kind = 28 then off % 60 == 0 else true
def fitsC (off : Int) (ps : List Piece) : Bool := ps.all (fitP off)
end Fs
theorem tmod_zero {off k : Int} (hk : 0 < k) : (Int.tmod off k = 0) ↔ (off % k = 0) := by
  rw [← Int.dvd_iff_tmod_eq_zero, Int.dvd_iff_emod_eq_zero]
set_option maxRecDepth 100000 in
set_option maxHeartbeats 4000000 in
theorem Fits_any (Y M D Hh Mi S Ns : Int) (name : List UInt8) (off : Int) (o1 : -86399 ≤ off) (o2 : off ≤ 86399) (ao : Option Addr) (cap : Nat) (ps : List Fs.Piece) (w : World) (H : PC w ao ps) (hlen : ps.length ≤ 100) :
    Calls Tryd.prog 29 #[.slice ao ps.length cap, civilV Y M D Hh Mi S Ns name off] w fun e w' => e = .returned (.bool (Fs.fitsC off ps)) ∧ Below w.heap.size w w' := by
  have b0 := (Below.refl w.heap.size w).alloc (Nat.le_refl _) (Obj.cells #[.int .i64 Y, .int .i64 M, .int .i64 D, .int .i64 Hh, .int .i64 Mi, .int .i64 S, .int .i64 Ns, .string ⟨name.toArray⟩, .int .i64 off] 25)
  have C0 := hide (CCell.new w Y M D Hh Mi S Ns name off)
  unfold civilV at *
  go_enter Tryd.func29, Tryd.ntmps29
  go_wp2_with fail
  go_loopw [5] (fun i wr => ∃ k : Nat, k ≤ ps.length ∧ i = .int .i64 k ∧ wr = w.alloc (.cells #[.int .i64 Y, .int .i64 M, .int .i64 D, .int .i64 Hh, .int .i64 Mi, .int .i64 S, .int .i64 Ns, .string ⟨name.toArray⟩, .int .i64 off] 25) ∧ Hid (Fs.fitsC off ps = (ps.drop k).all (Fs.fitP off)))
    (fun i _ => ps.length - (intOf i).toNat)
  case atStart => exact ⟨0, Nat.zero_le _, rfl, rfl, by show _ = _; rw [List.drop_zero]; rfl⟩
  case round =>
    obtain ⟨k, hk, rfl, rfl, HR⟩ := hrel
    by_cases hlt : k < ps.length
    · obtain ⟨b, o0, rfl, hc⟩ : ∃ b off, ao = some ⟨b, off, none⟩ ∧ ∀ k (h : k < ps.length), PCell w b (off + k * 4) ps[k] := by
        rcases H with h | h
        · rw [h] at hlt; exact absurd hlt (by simp)
        · exact h
      have hcr := (hc k hlt).below b0
      clear hc H
      obtain ⟨p0, p1, p2, p3⟩ := hcr
      obtain ⟨⟨K, T, N, C⟩, hp⟩ : ∃ p, ps[k] = p := ⟨_, rfl⟩
      have HD : Hid (ps.drop k = ⟨K, T, N, C⟩ :: ps.drop (k + 1)) := by show _ = _; rw [drop_get hlt, hp]
      rw [hp] at p0 p1 p2 p3
      simp only at p0 p1 p2 p3
      clear hp p1 p2 p3
      obtain ⟨c0, c1, c2, c3, c4, c5, c6, c7, c8⟩ := C0.out
      clear c0 c1 c2 c3 c4 c5 c6 c7
      have hlt' : (k : Int) < ps.length := by omega
      by_cases h24 : K = 24
      · subst h24
        by_cases hz : off % 3600 = 0
        · have e1 : (Int.tmod off 3600 == 0) = true := by rw [beq_iff_eq]; exact (tmod_zero (by omega)).2 hz
          have e1' : Int.tmod off 3600 = 0 := (tmod_zero (by omega)).2 hz
          have e3 : (Int.tmod off 3600 != 0) = false := by simp [bne, e1]
          have HR2 : Hid (Fs.fitsC off ps = (ps.drop (k + 1)).all (Fs.fitP off)) := by
            show _ = _
            rw [HR.out, HD.out]; simp [Fs.fitP, hz]
          clear hz HR HD
          go_wp2_with fail
          go_roundw
          case rel => exact ⟨k + 1, by omega, by go_num, by first | rfl | trivial, HR2⟩
          case measure => simp [intOf]; omega
        · have e0 : ¬ Int.tmod off 3600 = 0 := fun h => hz ((tmod_zero (by omega)).1 h)
          have e1 : (Int.tmod off 3600 == 0) = false := by rw [beq_eq_false_iff_ne]; exact e0
          have e3 : (Int.tmod off 3600 != 0) = true := by simp [bne, e1]
          have HR2 : Hid (Fs.fitsC off ps = false) := by
            show _ = _
            rw [HR.out, HD.out]; simp [Fs.fitP, hz]
          clear hz HR HD
          go_wp2_with fail
          go_ret
          exact ⟨ret_bool HR2.out.symm, b0⟩
      by_cases h29 : K = 29
      · subst h29
        by_cases hz : off % 3600 = 0
        · have e1 : (Int.tmod off 3600 == 0) = true := by rw [beq_iff_eq]; exact (tmod_zero (by omega)).2 hz
          have e1' : Int.tmod off 3600 = 0 := (tmod_zero (by omega)).2 hz
          have e3 : (Int.tmod off 3600 != 0) = false := by simp [bne, e1]
          have HR2 : Hid (Fs.fitsC off ps = (ps.drop (k + 1)).all (Fs.fitP off)) := by
            show _ = _
            rw [HR.out, HD.out]; simp [Fs.fitP, hz]
          clear hz HR HD
          go_wp2_with fail
          go_roundw
          case rel => exact ⟨k + 1, by omega, by go_num, by first | rfl | trivial, HR2⟩
          case measure => simp [intOf]; omega
        · have e0 : ¬ Int.tmod off 3600 = 0 := fun h => hz ((tmod_zero (by omega)).1 h)
          have e1 : (Int.tmod off 3600 == 0) = false := by rw [beq_eq_false_iff_ne]; exact e0
          have e3 : (Int.tmod off 3600 != 0) = true := by simp [bne, e1]
          have HR2 : Hid (Fs.fitsC off ps = false) := by
            show _ = _
            rw [HR.out, HD.out]; simp [Fs.fitP, hz]
          clear hz HR HD
          go_wp2_with fail
          go_ret
          exact ⟨ret_bool HR2.out.symm, b0⟩
      by_cases h22 : K = 22
      · subst h22
        by_cases hz : off % 60 = 0
        · have e1 : (Int.tmod off 60 == 0) = true := by rw [beq_iff_eq]; exact (tmod_zero (by omega)).2 hz
          have e1' : Int.tmod off 60 = 0 := (tmod_zero (by omega)).2 hz
          have e3 : (Int.tmod off 60 != 0) = false := by simp [bne, e1]
          have HR2 : Hid (Fs.fitsC off ps = (ps.drop (k + 1)).all (Fs.fitP off)) := by
            show _ = _
            rw [HR.out, HD.out]; simp [Fs.fitP, hz]
          clear hz HR HD
          go_wp2_with fail
          go_roundw
          case rel => exact ⟨k + 1, by omega, by go_num, by first | rfl | trivial, HR2⟩
          case measure => simp [intOf]; omega
        · have e0 : ¬ Int.tmod off 60 = 0 := fun h => hz ((tmod_zero (by omega)).1 h)
          have e1 : (Int.tmod off 60 == 0) = false := by rw [beq_eq_false_iff_ne]; exact e0
          have e3 : (Int.tmod off 60 != 0) = true := by simp [bne, e1]
          have HR2 : Hid (Fs.fitsC off ps = false) := by
            show _ = _
            rw [HR.out, HD.out]; simp [Fs.fitP, hz]
          clear hz HR HD
          go_wp2_with fail
          go_ret
          exact ⟨ret_bool HR2.out.symm, b0⟩
      by_cases h23 : K = 23
      · subst h23
        by_cases hz : off % 60 = 0
        · have e1 : (Int.tmod off 60 == 0) = true := by rw [beq_iff_eq]; exact (tmod_zero (by omega)).2 hz
          have e1' : Int.tmod off 60 = 0 := (tmod_zero (by omega)).2 hz
          have e3 : (Int.tmod off 60 != 0) = false := by simp [bne, e1]
          have HR2 : Hid (Fs.fitsC off ps = (ps.drop (k + 1)).all (Fs.fitP off)) := by
            show _ = _
            rw [HR.out, HD.out]; simp [Fs.fitP, hz]
          clear hz HR HD
          go_wp2_with fail
          go_roundw
          case rel => exact ⟨k + 1, by omega, by go_num, by first | rfl | trivial, HR2⟩
          case measure => simp [intOf]; omega
        · have e0 : ¬ Int.tmod off 60 = 0 := fun h => hz ((tmod_zero (by omega)).1 h)
          have e1 : (Int.tmod off 60 == 0) = false := by rw [beq_eq_false_iff_ne]; exact e0
          have e3 : (Int.tmod off 60 != 0) = true := by simp [bne, e1]
          have HR2 : Hid (Fs.fitsC off ps = false) := by
            show _ = _
            rw [HR.out, HD.out]; simp [Fs.fitP, hz]
          clear hz HR HD
          go_wp2_with fail
          go_ret
          exact ⟨ret_bool HR2.out.symm, b0⟩
      by_cases h27 : K = 27
      · subst h27
        by_cases hz : off % 60 = 0
        · have e1 : (Int.tmod off 60 == 0) = true := by rw [beq_iff_eq]; exact (tmod_zero (by omega)).2 hz
          have e1' : Int.tmod off 60 = 0 := (tmod_zero (by omega)).2 hz
          have e3 : (Int.tmod off 60 != 0) = false := by simp [bne, e1]
          have HR2 : Hid (Fs.fitsC off ps = (ps.drop (k + 1)).all (Fs.fitP off)) := by
            show _ = _
            rw [HR.out, HD.out]; simp [Fs.fitP, hz]
          clear hz HR HD
          go_wp2_with fail
          go_roundw
          case rel => exact ⟨k + 1, by omega, by go_num, by first | rfl | trivial, HR2⟩
          case measure => simp [intOf]; omega
        · have e0 : ¬ Int.tmod off 60 = 0 := fun h => hz ((tmod_zero (by omega)).1 h)
          have e1 : (Int.tmod off 60 == 0) = false := by rw [beq_eq_false_iff_ne]; exact e0
          have e3 : (Int.tmod off 60 != 0) = true := by simp [bne, e1]
          have HR2 : Hid (Fs.fitsC off ps = false) := by
            show _ = _
            rw [HR.out, HD.out]; simp [Fs.fitP, hz]
          clear hz HR HD
          go_wp2_with fail
          go_ret
          exact ⟨ret_bool HR2.out.symm, b0⟩
      by_cases h28 : K = 28
      · subst h28
        by_cases hz : off % 60 = 0
        · have e1 : (Int.tmod off 60 == 0) = true := by rw [beq_iff_eq]; exact (tmod_zero (by omega)).2 hz
          have e1' : Int.tmod off 60 = 0 := (tmod_zero (by omega)).2 hz
          have e3 : (Int.tmod off 60 != 0) = false := by simp [bne, e1]
          have HR2 : Hid (Fs.fitsC off ps = (ps.drop (k + 1)).all (Fs.fitP off)) := by
            show _ = _
            rw [HR.out, HD.out]; simp [Fs.fitP, hz]
          clear hz HR HD
          go_wp2_with fail
          go_roundw
          case rel => exact ⟨k + 1, by omega, by go_num, by first | rfl | trivial, HR2⟩
          case measure => simp [intOf]; omega
        · have e0 : ¬ Int.tmod off 60 = 0 := fun h => hz ((tmod_zero (by omega)).1 h)
          have e1 : (Int.tmod off 60 == 0) = false := by rw [beq_eq_false_iff_ne]; exact e0
          have e3 : (Int.tmod off 60 != 0) = true := by simp [bne, e1]
          have HR2 : Hid (Fs.fitsC off ps = false) := by
            show _ = _
            rw [HR.out, HD.out]; simp [Fs.fitP, hz]
          clear hz HR HD
          go_wp2_with fail
          go_ret
          exact ⟨ret_bool HR2.out.symm, b0⟩
      have k24 : (K == 24) = false := by rw [beq_eq_false_iff_ne]; exact h24
      have k29 : (K == 29) = false := by rw [beq_eq_false_iff_ne]; exact h29
      have k22 : (K == 22) = false := by rw [beq_eq_false_iff_ne]; exact h22
      have k23 : (K == 23) = false := by rw [beq_eq_false_iff_ne]; exact h23
      have k27 : (K == 27) = false := by rw [beq_eq_false_iff_ne]; exact h27
      have k28 : (K == 28) = false := by rw [beq_eq_false_iff_ne]; exact h28
      have HR2 : Hid (Fs.fitsC off ps = (ps.drop (k + 1)).all (Fs.fitP off)) := by
        show _ = _
        rw [HR.out, HD.out]; simp [Fs.fitP, h24, h29, h22, h23, h27, h28]
      clear HR HD h24 h29 h22 h23 h27 h28
      go_wp2_with fail
      go_roundw
      case rel => exact ⟨k + 1, by omega, by go_num, by first | rfl | trivial, HR2⟩
      case measure => simp [intOf]; omega
    · have hkl : k = ps.length := by omega
      have HR2 : Hid (Fs.fitsC off ps = true) := by
        show _ = _
        rw [HR.out, hkl]; simp
      have hnl : ¬ ((k : Int) < ps.length) := by omega
      clear hkl hlt HR
      go_wp2_with fail
      go_ret
      exact ⟨ret_bool HR2.out.symm, b0⟩
end Go.Proofs.YtjkfjlifcilejaaDoor
