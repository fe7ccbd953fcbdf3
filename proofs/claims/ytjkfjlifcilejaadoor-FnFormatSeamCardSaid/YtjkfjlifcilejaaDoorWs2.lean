/-
  WALKS, part s2: the reference's Plain (printed by wip/py/gen_plain.py).
-/
import Derived.Test.YtjkfjlifcilejaaDoorWs
namespace Go.Proofs.YtjkfjlifcilejaaDoor
open Go.RowKit
set_option linter.unusedVariables false
attribute [local go_sem] ByteArray.extract_mk get_mk ByteArray.toList_mk ByteArray.mk_append_mk take_drop_len

theorem plainAll_snoc (l : List UInt8) (c : UInt8) : Fs.plainAll (l ++ [c]) = (Fs.plainAll l && (Fs.plainSign c || (Fs.plainLetter c && !l.isEmpty))) := by
  rcases l with _ | ⟨d, t⟩
  · simp [Fs.plainAll, Fs.plainTail]
  · simp [Fs.plainAll, Fs.plainTail, Bool.and_assoc]
theorem plainAll_prefix : ∀ (r l : List UInt8), Fs.plainAll l = false → Fs.plainAll (l ++ r) = false
  | [], l, h => by simpa using h
  | c :: t, l, h => by
    have := plainAll_prefix t (l ++ [c]) (by rw [plainAll_snoc, h]; rfl)
    simpa using this
theorem plain_bad {l : List UInt8} {k : Nat} (hk : k < l.length) (h : Fs.plainAll (l.take k) = true) (hc : (Fs.plainSign l[k] || (Fs.plainLetter l[k] && !(l.take k).isEmpty)) = false) : Fs.plain l = false := by
  have h2 : Fs.plainAll (l.take (k + 1)) = false := by rw [List.take_succ_eq_append_getElem hk, plainAll_snoc, hc, Bool.and_false]
  have h3 := plainAll_prefix (l.drop (k + 1)) _ h2
  rw [List.take_append_drop] at h3
  simp [Fs.plain, h3]
theorem plain_on {l : List UInt8} {k : Nat} (hk : k < l.length) (h : Fs.plainAll (l.take k) = true) (hc : (Fs.plainSign l[k] || (Fs.plainLetter l[k] && !(l.take k).isEmpty)) = true) : Fs.plainAll (l.take (k + 1)) = true := by
  rw [List.take_succ_eq_append_getElem hk, plainAll_snoc, hc, h]; rfl
theorem take_emp {l : List UInt8} {k : Nat} (hk : k < l.length) : (l.take k).isEmpty = decide (k = 0) := by
  rw [Bool.eq_iff_iff]; simp; rintro rfl; simp at hk

set_option maxRecDepth 100000 in
set_option maxHeartbeats 16000000 in
theorem plain_any (l : List UInt8) (hl : l.length ≤ 140737488351230) (w : World) : Calls Tryd.prog 57 #[.string ⟨l.toArray⟩] w fun e w' => e = .returned (.bool (Fs.plain l)) ∧ Qt w w' := by
  go_enter Tryd.func57, Tryd.ntmps57
  go_wp2_with fail
  go_loop [3] (fun i => ∃ k : Nat, k ≤ l.length ∧ Fs.plainAll (l.take k) = true ∧ i = .int .i64 k) (fun i => l.length - (intOf i).toNat)
  case atStart => exact ⟨0, by omega, rfl, rfl⟩
  case round =>
    obtain ⟨k, hk, hP, rfl⟩ := hrel
    have HP := hide hP
    clear hP
    by_cases hlt : k < l.length
    · have hb := byte_lt l[k]
      have HT := hide (take_emp hlt)
      have hcases : (0 ≤ (l[k].toNat : Int) ∧ (l[k].toNat : Int) ≤ 31) ∨ (32 ≤ (l[k].toNat : Int) ∧ (l[k].toNat : Int) ≤ 32) ∨ (33 ≤ (l[k].toNat : Int) ∧ (l[k].toNat : Int) ≤ 43) ∨ (44 ≤ (l[k].toNat : Int) ∧ (l[k].toNat : Int) ≤ 44) ∨ (45 ≤ (l[k].toNat : Int) ∧ (l[k].toNat : Int) ≤ 45) ∨ (46 ≤ (l[k].toNat : Int) ∧ (l[k].toNat : Int) ≤ 46) ∨ (47 ≤ (l[k].toNat : Int) ∧ (l[k].toNat : Int) ≤ 47) ∨ (48 ≤ (l[k].toNat : Int) ∧ (l[k].toNat : Int) ≤ 57) ∨ (58 ≤ (l[k].toNat : Int) ∧ (l[k].toNat : Int) ≤ 64) ∨ (65 ≤ (l[k].toNat : Int) ∧ (l[k].toNat : Int) ≤ 73) ∨ (74 ≤ (l[k].toNat : Int) ∧ (l[k].toNat : Int) ≤ 83) ∨ (84 ≤ (l[k].toNat : Int) ∧ (l[k].toNat : Int) ≤ 84) ∨ (85 ≤ (l[k].toNat : Int) ∧ (l[k].toNat : Int) ≤ 86) ∨ (87 ≤ (l[k].toNat : Int) ∧ (l[k].toNat : Int) ≤ 87) ∨ (88 ≤ (l[k].toNat : Int) ∧ (l[k].toNat : Int) ≤ 88) ∨ (89 ≤ (l[k].toNat : Int) ∧ (l[k].toNat : Int) ≤ 90) ∨ (91 ≤ (l[k].toNat : Int) ∧ (l[k].toNat : Int) ≤ 94) ∨ (95 ≤ (l[k].toNat : Int) ∧ (l[k].toNat : Int) ≤ 122) ∨ (123 ≤ (l[k].toNat : Int) ∧ (l[k].toNat : Int) ≤ 126) ∨ (127 ≤ (l[k].toNat : Int) ∧ (l[k].toNat : Int) ≤ 255) := by omega
      rcases hcases with ⟨h1, h2⟩ | ⟨h1, h2⟩ | ⟨h1, h2⟩ | ⟨h1, h2⟩ | ⟨h1, h2⟩ | ⟨h1, h2⟩ | ⟨h1, h2⟩ | ⟨h1, h2⟩ | ⟨h1, h2⟩ | ⟨h1, h2⟩ | ⟨h1, h2⟩ | ⟨h1, h2⟩ | ⟨h1, h2⟩ | ⟨h1, h2⟩ | ⟨h1, h2⟩ | ⟨h1, h2⟩ | ⟨h1, h2⟩ | ⟨h1, h2⟩ | ⟨h1, h2⟩ | ⟨h1, h2⟩
      · have HC : Hid ((Fs.plainSign l[k] || (Fs.plainLetter l[k] && !(l.take k).isEmpty)) = false) := by
          have h3 : Fs.plainSign l[k] = false := by simp [Fs.plainSign]; omega
          have h4 : Fs.plainLetter l[k] = false := by simp [Fs.plainLetter]; omega
          show _ = _
          rw [h3, h4]; rfl
        have e84 : ((l[k].toNat : Int) == 84) = false := by rw [beq_eq_false_iff_ne]; omega
        have e87 : ((l[k].toNat : Int) == 87) = false := by rw [beq_eq_false_iff_ne]; omega
        have e88 : ((l[k].toNat : Int) == 88) = false := by rw [beq_eq_false_iff_ne]; omega
        have e32 : ((l[k].toNat : Int) == 32) = false := by rw [beq_eq_false_iff_ne]; omega
        have e45 : ((l[k].toNat : Int) == 45) = false := by rw [beq_eq_false_iff_ne]; omega
        have e47 : ((l[k].toNat : Int) == 47) = false := by rw [beq_eq_false_iff_ne]; omega
        have u73 : decide ((l[k].toNat : Int) ≤ 73) = true := by rw [decide_eq_true_iff]; omega
        have u43 : decide ((l[k].toNat : Int) ≤ 43) = true := by rw [decide_eq_true_iff]; omega
        have u64 : decide ((l[k].toNat : Int) ≤ 64) = true := by rw [decide_eq_true_iff]; omega
        have u94 : decide ((l[k].toNat : Int) ≤ 94) = true := by rw [decide_eq_true_iff]; omega
        have u126 : decide ((l[k].toNat : Int) ≤ 126) = true := by rw [decide_eq_true_iff]; omega
        go_wp2_with fail
        all_goals go_ret
        all_goals exact ⟨ret_bool (plain_bad hlt HP.out HC.out).symm, Qt.refl _⟩
      · have HC : Hid ((Fs.plainSign l[k] || (Fs.plainLetter l[k] && !(l.take k).isEmpty)) = true) := by
          have : Fs.plainSign l[k] = true := by simp [Fs.plainSign]; omega
          show _ = _
          rw [this]; rfl
        have e84 : ((l[k].toNat : Int) == 84) = false := by rw [beq_eq_false_iff_ne]; omega
        have e87 : ((l[k].toNat : Int) == 87) = false := by rw [beq_eq_false_iff_ne]; omega
        have e88 : ((l[k].toNat : Int) == 88) = false := by rw [beq_eq_false_iff_ne]; omega
        have e32 : ((l[k].toNat : Int) == 32) = true := by rw [beq_iff_eq]; omega
        have e45 : ((l[k].toNat : Int) == 45) = false := by rw [beq_eq_false_iff_ne]; omega
        have e47 : ((l[k].toNat : Int) == 47) = false := by rw [beq_eq_false_iff_ne]; omega
        have u73 : decide ((l[k].toNat : Int) ≤ 73) = true := by rw [decide_eq_true_iff]; omega
        have u43 : decide ((l[k].toNat : Int) ≤ 43) = true := by rw [decide_eq_true_iff]; omega
        have u64 : decide ((l[k].toNat : Int) ≤ 64) = true := by rw [decide_eq_true_iff]; omega
        have u94 : decide ((l[k].toNat : Int) ≤ 94) = true := by rw [decide_eq_true_iff]; omega
        have u126 : decide ((l[k].toNat : Int) ≤ 126) = true := by rw [decide_eq_true_iff]; omega
        go_wp2_with fail
        all_goals refine ⟨⟨k + 1, by omega, plain_on hlt HP.out HC.out, by go_num⟩, by simp [intOf]; omega⟩
      · have HC : Hid ((Fs.plainSign l[k] || (Fs.plainLetter l[k] && !(l.take k).isEmpty)) = true) := by
          have : Fs.plainSign l[k] = true := by simp [Fs.plainSign]; omega
          show _ = _
          rw [this]; rfl
        have e84 : ((l[k].toNat : Int) == 84) = false := by rw [beq_eq_false_iff_ne]; omega
        have e87 : ((l[k].toNat : Int) == 87) = false := by rw [beq_eq_false_iff_ne]; omega
        have e88 : ((l[k].toNat : Int) == 88) = false := by rw [beq_eq_false_iff_ne]; omega
        have e32 : ((l[k].toNat : Int) == 32) = false := by rw [beq_eq_false_iff_ne]; omega
        have e45 : ((l[k].toNat : Int) == 45) = false := by rw [beq_eq_false_iff_ne]; omega
        have e47 : ((l[k].toNat : Int) == 47) = false := by rw [beq_eq_false_iff_ne]; omega
        have u73 : decide ((l[k].toNat : Int) ≤ 73) = true := by rw [decide_eq_true_iff]; omega
        have u43 : decide ((l[k].toNat : Int) ≤ 43) = true := by rw [decide_eq_true_iff]; omega
        have u64 : decide ((l[k].toNat : Int) ≤ 64) = true := by rw [decide_eq_true_iff]; omega
        have u94 : decide ((l[k].toNat : Int) ≤ 94) = true := by rw [decide_eq_true_iff]; omega
        have u126 : decide ((l[k].toNat : Int) ≤ 126) = true := by rw [decide_eq_true_iff]; omega
        go_wp2_with fail
        all_goals refine ⟨⟨k + 1, by omega, plain_on hlt HP.out HC.out, by go_num⟩, by simp [intOf]; omega⟩
      · have HC : Hid ((Fs.plainSign l[k] || (Fs.plainLetter l[k] && !(l.take k).isEmpty)) = false) := by
          have h3 : Fs.plainSign l[k] = false := by simp [Fs.plainSign]; omega
          have h4 : Fs.plainLetter l[k] = false := by simp [Fs.plainLetter]; omega
          show _ = _
          rw [h3, h4]; rfl
        have e84 : ((l[k].toNat : Int) == 84) = false := by rw [beq_eq_false_iff_ne]; omega
        have e87 : ((l[k].toNat : Int) == 87) = false := by rw [beq_eq_false_iff_ne]; omega
        have e88 : ((l[k].toNat : Int) == 88) = false := by rw [beq_eq_false_iff_ne]; omega
        have e32 : ((l[k].toNat : Int) == 32) = false := by rw [beq_eq_false_iff_ne]; omega
        have e45 : ((l[k].toNat : Int) == 45) = false := by rw [beq_eq_false_iff_ne]; omega
        have e47 : ((l[k].toNat : Int) == 47) = false := by rw [beq_eq_false_iff_ne]; omega
        have u73 : decide ((l[k].toNat : Int) ≤ 73) = true := by rw [decide_eq_true_iff]; omega
        have u43 : decide ((l[k].toNat : Int) ≤ 43) = false := by rw [decide_eq_false_iff_not]; omega
        have u64 : decide ((l[k].toNat : Int) ≤ 64) = true := by rw [decide_eq_true_iff]; omega
        have u94 : decide ((l[k].toNat : Int) ≤ 94) = true := by rw [decide_eq_true_iff]; omega
        have u126 : decide ((l[k].toNat : Int) ≤ 126) = true := by rw [decide_eq_true_iff]; omega
        go_wp2_with fail
        all_goals go_ret
        all_goals exact ⟨ret_bool (plain_bad hlt HP.out HC.out).symm, Qt.refl _⟩
      · have HC : Hid ((Fs.plainSign l[k] || (Fs.plainLetter l[k] && !(l.take k).isEmpty)) = true) := by
          have : Fs.plainSign l[k] = true := by simp [Fs.plainSign]; omega
          show _ = _
          rw [this]; rfl
        have e84 : ((l[k].toNat : Int) == 84) = false := by rw [beq_eq_false_iff_ne]; omega
        have e87 : ((l[k].toNat : Int) == 87) = false := by rw [beq_eq_false_iff_ne]; omega
        have e88 : ((l[k].toNat : Int) == 88) = false := by rw [beq_eq_false_iff_ne]; omega
        have e32 : ((l[k].toNat : Int) == 32) = false := by rw [beq_eq_false_iff_ne]; omega
        have e45 : ((l[k].toNat : Int) == 45) = true := by rw [beq_iff_eq]; omega
        have e47 : ((l[k].toNat : Int) == 47) = false := by rw [beq_eq_false_iff_ne]; omega
        have u73 : decide ((l[k].toNat : Int) ≤ 73) = true := by rw [decide_eq_true_iff]; omega
        have u43 : decide ((l[k].toNat : Int) ≤ 43) = false := by rw [decide_eq_false_iff_not]; omega
        have u64 : decide ((l[k].toNat : Int) ≤ 64) = true := by rw [decide_eq_true_iff]; omega
        have u94 : decide ((l[k].toNat : Int) ≤ 94) = true := by rw [decide_eq_true_iff]; omega
        have u126 : decide ((l[k].toNat : Int) ≤ 126) = true := by rw [decide_eq_true_iff]; omega
        go_wp2_with fail
        all_goals refine ⟨⟨k + 1, by omega, plain_on hlt HP.out HC.out, by go_num⟩, by simp [intOf]; omega⟩
      · have HC : Hid ((Fs.plainSign l[k] || (Fs.plainLetter l[k] && !(l.take k).isEmpty)) = false) := by
          have h3 : Fs.plainSign l[k] = false := by simp [Fs.plainSign]; omega
          have h4 : Fs.plainLetter l[k] = false := by simp [Fs.plainLetter]; omega
          show _ = _
          rw [h3, h4]; rfl
        have e84 : ((l[k].toNat : Int) == 84) = false := by rw [beq_eq_false_iff_ne]; omega
        have e87 : ((l[k].toNat : Int) == 87) = false := by rw [beq_eq_false_iff_ne]; omega
        have e88 : ((l[k].toNat : Int) == 88) = false := by rw [beq_eq_false_iff_ne]; omega
        have e32 : ((l[k].toNat : Int) == 32) = false := by rw [beq_eq_false_iff_ne]; omega
        have e45 : ((l[k].toNat : Int) == 45) = false := by rw [beq_eq_false_iff_ne]; omega
        have e47 : ((l[k].toNat : Int) == 47) = false := by rw [beq_eq_false_iff_ne]; omega
        have u73 : decide ((l[k].toNat : Int) ≤ 73) = true := by rw [decide_eq_true_iff]; omega
        have u43 : decide ((l[k].toNat : Int) ≤ 43) = false := by rw [decide_eq_false_iff_not]; omega
        have u64 : decide ((l[k].toNat : Int) ≤ 64) = true := by rw [decide_eq_true_iff]; omega
        have u94 : decide ((l[k].toNat : Int) ≤ 94) = true := by rw [decide_eq_true_iff]; omega
        have u126 : decide ((l[k].toNat : Int) ≤ 126) = true := by rw [decide_eq_true_iff]; omega
        go_wp2_with fail
        all_goals go_ret
        all_goals exact ⟨ret_bool (plain_bad hlt HP.out HC.out).symm, Qt.refl _⟩
      · have HC : Hid ((Fs.plainSign l[k] || (Fs.plainLetter l[k] && !(l.take k).isEmpty)) = true) := by
          have : Fs.plainSign l[k] = true := by simp [Fs.plainSign]; omega
          show _ = _
          rw [this]; rfl
        have e84 : ((l[k].toNat : Int) == 84) = false := by rw [beq_eq_false_iff_ne]; omega
        have e87 : ((l[k].toNat : Int) == 87) = false := by rw [beq_eq_false_iff_ne]; omega
        have e88 : ((l[k].toNat : Int) == 88) = false := by rw [beq_eq_false_iff_ne]; omega
        have e32 : ((l[k].toNat : Int) == 32) = false := by rw [beq_eq_false_iff_ne]; omega
        have e45 : ((l[k].toNat : Int) == 45) = false := by rw [beq_eq_false_iff_ne]; omega
        have e47 : ((l[k].toNat : Int) == 47) = true := by rw [beq_iff_eq]; omega
        have u73 : decide ((l[k].toNat : Int) ≤ 73) = true := by rw [decide_eq_true_iff]; omega
        have u43 : decide ((l[k].toNat : Int) ≤ 43) = false := by rw [decide_eq_false_iff_not]; omega
        have u64 : decide ((l[k].toNat : Int) ≤ 64) = true := by rw [decide_eq_true_iff]; omega
        have u94 : decide ((l[k].toNat : Int) ≤ 94) = true := by rw [decide_eq_true_iff]; omega
        have u126 : decide ((l[k].toNat : Int) ≤ 126) = true := by rw [decide_eq_true_iff]; omega
        go_wp2_with fail
        all_goals refine ⟨⟨k + 1, by omega, plain_on hlt HP.out HC.out, by go_num⟩, by simp [intOf]; omega⟩
      · have HC : Hid ((Fs.plainSign l[k] || (Fs.plainLetter l[k] && !(l.take k).isEmpty)) = false) := by
          have h3 : Fs.plainSign l[k] = false := by simp [Fs.plainSign]; omega
          have h4 : Fs.plainLetter l[k] = false := by simp [Fs.plainLetter]; omega
          show _ = _
          rw [h3, h4]; rfl
        have e84 : ((l[k].toNat : Int) == 84) = false := by rw [beq_eq_false_iff_ne]; omega
        have e87 : ((l[k].toNat : Int) == 87) = false := by rw [beq_eq_false_iff_ne]; omega
        have e88 : ((l[k].toNat : Int) == 88) = false := by rw [beq_eq_false_iff_ne]; omega
        have e32 : ((l[k].toNat : Int) == 32) = false := by rw [beq_eq_false_iff_ne]; omega
        have e45 : ((l[k].toNat : Int) == 45) = false := by rw [beq_eq_false_iff_ne]; omega
        have e47 : ((l[k].toNat : Int) == 47) = false := by rw [beq_eq_false_iff_ne]; omega
        have u73 : decide ((l[k].toNat : Int) ≤ 73) = true := by rw [decide_eq_true_iff]; omega
        have u43 : decide ((l[k].toNat : Int) ≤ 43) = false := by rw [decide_eq_false_iff_not]; omega
        have u64 : decide ((l[k].toNat : Int) ≤ 64) = true := by rw [decide_eq_true_iff]; omega
        have u94 : decide ((l[k].toNat : Int) ≤ 94) = true := by rw [decide_eq_true_iff]; omega
        have u126 : decide ((l[k].toNat : Int) ≤ 126) = true := by rw [decide_eq_true_iff]; omega
        go_wp2_with fail
        all_goals go_ret
        all_goals exact ⟨ret_bool (plain_bad hlt HP.out HC.out).symm, Qt.refl _⟩
      · have HC : Hid ((Fs.plainSign l[k] || (Fs.plainLetter l[k] && !(l.take k).isEmpty)) = true) := by
          have : Fs.plainSign l[k] = true := by simp [Fs.plainSign]; omega
          show _ = _
          rw [this]; rfl
        have e84 : ((l[k].toNat : Int) == 84) = false := by rw [beq_eq_false_iff_ne]; omega
        have e87 : ((l[k].toNat : Int) == 87) = false := by rw [beq_eq_false_iff_ne]; omega
        have e88 : ((l[k].toNat : Int) == 88) = false := by rw [beq_eq_false_iff_ne]; omega
        have e32 : ((l[k].toNat : Int) == 32) = false := by rw [beq_eq_false_iff_ne]; omega
        have e45 : ((l[k].toNat : Int) == 45) = false := by rw [beq_eq_false_iff_ne]; omega
        have e47 : ((l[k].toNat : Int) == 47) = false := by rw [beq_eq_false_iff_ne]; omega
        have u73 : decide ((l[k].toNat : Int) ≤ 73) = true := by rw [decide_eq_true_iff]; omega
        have u43 : decide ((l[k].toNat : Int) ≤ 43) = false := by rw [decide_eq_false_iff_not]; omega
        have u64 : decide ((l[k].toNat : Int) ≤ 64) = true := by rw [decide_eq_true_iff]; omega
        have u94 : decide ((l[k].toNat : Int) ≤ 94) = true := by rw [decide_eq_true_iff]; omega
        have u126 : decide ((l[k].toNat : Int) ≤ 126) = true := by rw [decide_eq_true_iff]; omega
        go_wp2_with fail
        all_goals refine ⟨⟨k + 1, by omega, plain_on hlt HP.out HC.out, by go_num⟩, by simp [intOf]; omega⟩
      · have HS : Hid (Fs.plainSign l[k] = false ∧ Fs.plainLetter l[k] = true) := by
          constructor
          · simp [Fs.plainSign]; omega
          · simp [Fs.plainLetter]; omega
        have e84 : ((l[k].toNat : Int) == 84) = false := by rw [beq_eq_false_iff_ne]; omega
        have e87 : ((l[k].toNat : Int) == 87) = false := by rw [beq_eq_false_iff_ne]; omega
        have e88 : ((l[k].toNat : Int) == 88) = false := by rw [beq_eq_false_iff_ne]; omega
        have e32 : ((l[k].toNat : Int) == 32) = false := by rw [beq_eq_false_iff_ne]; omega
        have e45 : ((l[k].toNat : Int) == 45) = false := by rw [beq_eq_false_iff_ne]; omega
        have e47 : ((l[k].toNat : Int) == 47) = false := by rw [beq_eq_false_iff_ne]; omega
        have u73 : decide ((l[k].toNat : Int) ≤ 73) = true := by rw [decide_eq_true_iff]; omega
        have u43 : decide ((l[k].toNat : Int) ≤ 43) = false := by rw [decide_eq_false_iff_not]; omega
        have u64 : decide ((l[k].toNat : Int) ≤ 64) = false := by rw [decide_eq_false_iff_not]; omega
        have u94 : decide ((l[k].toNat : Int) ≤ 94) = true := by rw [decide_eq_true_iff]; omega
        have u126 : decide ((l[k].toNat : Int) ≤ 126) = true := by rw [decide_eq_true_iff]; omega
        by_cases hk0 : k = 0
        · have HC : Hid ((Fs.plainSign l[k] || (Fs.plainLetter l[k] && !(l.take k).isEmpty)) = false) := by
            show _ = _
            rw [HS.out.1, HS.out.2, HT.out]; simp [hk0]
          have bk : ((k : Int) == 0) = true := by rw [beq_iff_eq]; omega
          clear hk0
          go_wp2_with fail
          all_goals go_ret
          all_goals exact ⟨ret_bool (plain_bad hlt HP.out HC.out).symm, Qt.refl _⟩
        · have HC : Hid ((Fs.plainSign l[k] || (Fs.plainLetter l[k] && !(l.take k).isEmpty)) = true) := by
            show _ = _
            rw [HS.out.1, HS.out.2, HT.out]; simp [hk0]
          have bk : ((k : Int) == 0) = false := by rw [beq_eq_false_iff_ne]; omega
          clear hk0
          go_wp2_with fail
          all_goals refine ⟨⟨k + 1, by omega, plain_on hlt HP.out HC.out, by go_num⟩, by simp [intOf]; omega⟩
      · have HC : Hid ((Fs.plainSign l[k] || (Fs.plainLetter l[k] && !(l.take k).isEmpty)) = false) := by
          have h3 : Fs.plainSign l[k] = false := by simp [Fs.plainSign]; omega
          have h4 : Fs.plainLetter l[k] = false := by simp [Fs.plainLetter]; omega
          show _ = _
          rw [h3, h4]; rfl
        have e84 : ((l[k].toNat : Int) == 84) = false := by rw [beq_eq_false_iff_ne]; omega
        have e87 : ((l[k].toNat : Int) == 87) = false := by rw [beq_eq_false_iff_ne]; omega
        have e88 : ((l[k].toNat : Int) == 88) = false := by rw [beq_eq_false_iff_ne]; omega
        have e32 : ((l[k].toNat : Int) == 32) = false := by rw [beq_eq_false_iff_ne]; omega
        have e45 : ((l[k].toNat : Int) == 45) = false := by rw [beq_eq_false_iff_ne]; omega
        have e47 : ((l[k].toNat : Int) == 47) = false := by rw [beq_eq_false_iff_ne]; omega
        have u73 : decide ((l[k].toNat : Int) ≤ 73) = false := by rw [decide_eq_false_iff_not]; omega
        have u43 : decide ((l[k].toNat : Int) ≤ 43) = false := by rw [decide_eq_false_iff_not]; omega
        have u64 : decide ((l[k].toNat : Int) ≤ 64) = false := by rw [decide_eq_false_iff_not]; omega
        have u94 : decide ((l[k].toNat : Int) ≤ 94) = true := by rw [decide_eq_true_iff]; omega
        have u126 : decide ((l[k].toNat : Int) ≤ 126) = true := by rw [decide_eq_true_iff]; omega
        go_wp2_with fail
        all_goals go_ret
        all_goals exact ⟨ret_bool (plain_bad hlt HP.out HC.out).symm, Qt.refl _⟩
      · have HS : Hid (Fs.plainSign l[k] = false ∧ Fs.plainLetter l[k] = true) := by
          constructor
          · simp [Fs.plainSign]; omega
          · simp [Fs.plainLetter]; omega
        have e84 : ((l[k].toNat : Int) == 84) = true := by rw [beq_iff_eq]; omega
        have e87 : ((l[k].toNat : Int) == 87) = false := by rw [beq_eq_false_iff_ne]; omega
        have e88 : ((l[k].toNat : Int) == 88) = false := by rw [beq_eq_false_iff_ne]; omega
        have e32 : ((l[k].toNat : Int) == 32) = false := by rw [beq_eq_false_iff_ne]; omega
        have e45 : ((l[k].toNat : Int) == 45) = false := by rw [beq_eq_false_iff_ne]; omega
        have e47 : ((l[k].toNat : Int) == 47) = false := by rw [beq_eq_false_iff_ne]; omega
        have u73 : decide ((l[k].toNat : Int) ≤ 73) = false := by rw [decide_eq_false_iff_not]; omega
        have u43 : decide ((l[k].toNat : Int) ≤ 43) = false := by rw [decide_eq_false_iff_not]; omega
        have u64 : decide ((l[k].toNat : Int) ≤ 64) = false := by rw [decide_eq_false_iff_not]; omega
        have u94 : decide ((l[k].toNat : Int) ≤ 94) = true := by rw [decide_eq_true_iff]; omega
        have u126 : decide ((l[k].toNat : Int) ≤ 126) = true := by rw [decide_eq_true_iff]; omega
        by_cases hk0 : k = 0
        · have HC : Hid ((Fs.plainSign l[k] || (Fs.plainLetter l[k] && !(l.take k).isEmpty)) = false) := by
            show _ = _
            rw [HS.out.1, HS.out.2, HT.out]; simp [hk0]
          have bk : ((k : Int) == 0) = true := by rw [beq_iff_eq]; omega
          clear hk0
          go_wp2_with fail
          all_goals go_ret
          all_goals exact ⟨ret_bool (plain_bad hlt HP.out HC.out).symm, Qt.refl _⟩
        · have HC : Hid ((Fs.plainSign l[k] || (Fs.plainLetter l[k] && !(l.take k).isEmpty)) = true) := by
            show _ = _
            rw [HS.out.1, HS.out.2, HT.out]; simp [hk0]
          have bk : ((k : Int) == 0) = false := by rw [beq_eq_false_iff_ne]; omega
          clear hk0
          go_wp2_with fail
          all_goals refine ⟨⟨k + 1, by omega, plain_on hlt HP.out HC.out, by go_num⟩, by simp [intOf]; omega⟩
      · have HC : Hid ((Fs.plainSign l[k] || (Fs.plainLetter l[k] && !(l.take k).isEmpty)) = false) := by
          have h3 : Fs.plainSign l[k] = false := by simp [Fs.plainSign]; omega
          have h4 : Fs.plainLetter l[k] = false := by simp [Fs.plainLetter]; omega
          show _ = _
          rw [h3, h4]; rfl
        have e84 : ((l[k].toNat : Int) == 84) = false := by rw [beq_eq_false_iff_ne]; omega
        have e87 : ((l[k].toNat : Int) == 87) = false := by rw [beq_eq_false_iff_ne]; omega
        have e88 : ((l[k].toNat : Int) == 88) = false := by rw [beq_eq_false_iff_ne]; omega
        have e32 : ((l[k].toNat : Int) == 32) = false := by rw [beq_eq_false_iff_ne]; omega
        have e45 : ((l[k].toNat : Int) == 45) = false := by rw [beq_eq_false_iff_ne]; omega
        have e47 : ((l[k].toNat : Int) == 47) = false := by rw [beq_eq_false_iff_ne]; omega
        have u73 : decide ((l[k].toNat : Int) ≤ 73) = false := by rw [decide_eq_false_iff_not]; omega
        have u43 : decide ((l[k].toNat : Int) ≤ 43) = false := by rw [decide_eq_false_iff_not]; omega
        have u64 : decide ((l[k].toNat : Int) ≤ 64) = false := by rw [decide_eq_false_iff_not]; omega
        have u94 : decide ((l[k].toNat : Int) ≤ 94) = true := by rw [decide_eq_true_iff]; omega
        have u126 : decide ((l[k].toNat : Int) ≤ 126) = true := by rw [decide_eq_true_iff]; omega
        go_wp2_with fail
        all_goals go_ret
        all_goals exact ⟨ret_bool (plain_bad hlt HP.out HC.out).symm, Qt.refl _⟩
      · have HS : Hid (Fs.plainSign l[k] = false ∧ Fs.plainLetter l[k] = true) := by
          constructor
          · simp [Fs.plainSign]; omega
          · simp [Fs.plainLetter]; omega
        have e84 : ((l[k].toNat : Int) == 84) = false := by rw [beq_eq_false_iff_ne]; omega
        have e87 : ((l[k].toNat : Int) == 87) = true := by rw [beq_iff_eq]; omega
        have e88 : ((l[k].toNat : Int) == 88) = false := by rw [beq_eq_false_iff_ne]; omega
        have e32 : ((l[k].toNat : Int) == 32) = false := by rw [beq_eq_false_iff_ne]; omega
        have e45 : ((l[k].toNat : Int) == 45) = false := by rw [beq_eq_false_iff_ne]; omega
        have e47 : ((l[k].toNat : Int) == 47) = false := by rw [beq_eq_false_iff_ne]; omega
        have u73 : decide ((l[k].toNat : Int) ≤ 73) = false := by rw [decide_eq_false_iff_not]; omega
        have u43 : decide ((l[k].toNat : Int) ≤ 43) = false := by rw [decide_eq_false_iff_not]; omega
        have u64 : decide ((l[k].toNat : Int) ≤ 64) = false := by rw [decide_eq_false_iff_not]; omega
        have u94 : decide ((l[k].toNat : Int) ≤ 94) = true := by rw [decide_eq_true_iff]; omega
        have u126 : decide ((l[k].toNat : Int) ≤ 126) = true := by rw [decide_eq_true_iff]; omega
        by_cases hk0 : k = 0
        · have HC : Hid ((Fs.plainSign l[k] || (Fs.plainLetter l[k] && !(l.take k).isEmpty)) = false) := by
            show _ = _
            rw [HS.out.1, HS.out.2, HT.out]; simp [hk0]
          have bk : ((k : Int) == 0) = true := by rw [beq_iff_eq]; omega
          clear hk0
          go_wp2_with fail
          all_goals go_ret
          all_goals exact ⟨ret_bool (plain_bad hlt HP.out HC.out).symm, Qt.refl _⟩
        · have HC : Hid ((Fs.plainSign l[k] || (Fs.plainLetter l[k] && !(l.take k).isEmpty)) = true) := by
            show _ = _
            rw [HS.out.1, HS.out.2, HT.out]; simp [hk0]
          have bk : ((k : Int) == 0) = false := by rw [beq_eq_false_iff_ne]; omega
          clear hk0
          go_wp2_with fail
          all_goals refine ⟨⟨k + 1, by omega, plain_on hlt HP.out HC.out, by go_num⟩, by simp [intOf]; omega⟩
      · have HS : Hid (Fs.plainSign l[k] = false ∧ Fs.plainLetter l[k] = true) := by
          constructor
          · simp [Fs.plainSign]; omega
          · simp [Fs.plainLetter]; omega
        have e84 : ((l[k].toNat : Int) == 84) = false := by rw [beq_eq_false_iff_ne]; omega
        have e87 : ((l[k].toNat : Int) == 87) = false := by rw [beq_eq_false_iff_ne]; omega
        have e88 : ((l[k].toNat : Int) == 88) = true := by rw [beq_iff_eq]; omega
        have e32 : ((l[k].toNat : Int) == 32) = false := by rw [beq_eq_false_iff_ne]; omega
        have e45 : ((l[k].toNat : Int) == 45) = false := by rw [beq_eq_false_iff_ne]; omega
        have e47 : ((l[k].toNat : Int) == 47) = false := by rw [beq_eq_false_iff_ne]; omega
        have u73 : decide ((l[k].toNat : Int) ≤ 73) = false := by rw [decide_eq_false_iff_not]; omega
        have u43 : decide ((l[k].toNat : Int) ≤ 43) = false := by rw [decide_eq_false_iff_not]; omega
        have u64 : decide ((l[k].toNat : Int) ≤ 64) = false := by rw [decide_eq_false_iff_not]; omega
        have u94 : decide ((l[k].toNat : Int) ≤ 94) = true := by rw [decide_eq_true_iff]; omega
        have u126 : decide ((l[k].toNat : Int) ≤ 126) = true := by rw [decide_eq_true_iff]; omega
        by_cases hk0 : k = 0
        · have HC : Hid ((Fs.plainSign l[k] || (Fs.plainLetter l[k] && !(l.take k).isEmpty)) = false) := by
            show _ = _
            rw [HS.out.1, HS.out.2, HT.out]; simp [hk0]
          have bk : ((k : Int) == 0) = true := by rw [beq_iff_eq]; omega
          clear hk0
          go_wp2_with fail
          all_goals go_ret
          all_goals exact ⟨ret_bool (plain_bad hlt HP.out HC.out).symm, Qt.refl _⟩
        · have HC : Hid ((Fs.plainSign l[k] || (Fs.plainLetter l[k] && !(l.take k).isEmpty)) = true) := by
            show _ = _
            rw [HS.out.1, HS.out.2, HT.out]; simp [hk0]
          have bk : ((k : Int) == 0) = false := by rw [beq_eq_false_iff_ne]; omega
          clear hk0
          go_wp2_with fail
          all_goals refine ⟨⟨k + 1, by omega, plain_on hlt HP.out HC.out, by go_num⟩, by simp [intOf]; omega⟩
      · have HC : Hid ((Fs.plainSign l[k] || (Fs.plainLetter l[k] && !(l.take k).isEmpty)) = false) := by
          have h3 : Fs.plainSign l[k] = false := by simp [Fs.plainSign]; omega
          have h4 : Fs.plainLetter l[k] = false := by simp [Fs.plainLetter]; omega
          show _ = _
          rw [h3, h4]; rfl
        have e84 : ((l[k].toNat : Int) == 84) = false := by rw [beq_eq_false_iff_ne]; omega
        have e87 : ((l[k].toNat : Int) == 87) = false := by rw [beq_eq_false_iff_ne]; omega
        have e88 : ((l[k].toNat : Int) == 88) = false := by rw [beq_eq_false_iff_ne]; omega
        have e32 : ((l[k].toNat : Int) == 32) = false := by rw [beq_eq_false_iff_ne]; omega
        have e45 : ((l[k].toNat : Int) == 45) = false := by rw [beq_eq_false_iff_ne]; omega
        have e47 : ((l[k].toNat : Int) == 47) = false := by rw [beq_eq_false_iff_ne]; omega
        have u73 : decide ((l[k].toNat : Int) ≤ 73) = false := by rw [decide_eq_false_iff_not]; omega
        have u43 : decide ((l[k].toNat : Int) ≤ 43) = false := by rw [decide_eq_false_iff_not]; omega
        have u64 : decide ((l[k].toNat : Int) ≤ 64) = false := by rw [decide_eq_false_iff_not]; omega
        have u94 : decide ((l[k].toNat : Int) ≤ 94) = true := by rw [decide_eq_true_iff]; omega
        have u126 : decide ((l[k].toNat : Int) ≤ 126) = true := by rw [decide_eq_true_iff]; omega
        go_wp2_with fail
        all_goals go_ret
        all_goals exact ⟨ret_bool (plain_bad hlt HP.out HC.out).symm, Qt.refl _⟩
      · have HC : Hid ((Fs.plainSign l[k] || (Fs.plainLetter l[k] && !(l.take k).isEmpty)) = true) := by
          have : Fs.plainSign l[k] = true := by simp [Fs.plainSign]; omega
          show _ = _
          rw [this]; rfl
        have e84 : ((l[k].toNat : Int) == 84) = false := by rw [beq_eq_false_iff_ne]; omega
        have e87 : ((l[k].toNat : Int) == 87) = false := by rw [beq_eq_false_iff_ne]; omega
        have e88 : ((l[k].toNat : Int) == 88) = false := by rw [beq_eq_false_iff_ne]; omega
        have e32 : ((l[k].toNat : Int) == 32) = false := by rw [beq_eq_false_iff_ne]; omega
        have e45 : ((l[k].toNat : Int) == 45) = false := by rw [beq_eq_false_iff_ne]; omega
        have e47 : ((l[k].toNat : Int) == 47) = false := by rw [beq_eq_false_iff_ne]; omega
        have u73 : decide ((l[k].toNat : Int) ≤ 73) = false := by rw [decide_eq_false_iff_not]; omega
        have u43 : decide ((l[k].toNat : Int) ≤ 43) = false := by rw [decide_eq_false_iff_not]; omega
        have u64 : decide ((l[k].toNat : Int) ≤ 64) = false := by rw [decide_eq_false_iff_not]; omega
        have u94 : decide ((l[k].toNat : Int) ≤ 94) = true := by rw [decide_eq_true_iff]; omega
        have u126 : decide ((l[k].toNat : Int) ≤ 126) = true := by rw [decide_eq_true_iff]; omega
        go_wp2_with fail
        all_goals refine ⟨⟨k + 1, by omega, plain_on hlt HP.out HC.out, by go_num⟩, by simp [intOf]; omega⟩
      · have HC : Hid ((Fs.plainSign l[k] || (Fs.plainLetter l[k] && !(l.take k).isEmpty)) = false) := by
          have h3 : Fs.plainSign l[k] = false := by simp [Fs.plainSign]; omega
          have h4 : Fs.plainLetter l[k] = false := by simp [Fs.plainLetter]; omega
          show _ = _
          rw [h3, h4]; rfl
        have e84 : ((l[k].toNat : Int) == 84) = false := by rw [beq_eq_false_iff_ne]; omega
        have e87 : ((l[k].toNat : Int) == 87) = false := by rw [beq_eq_false_iff_ne]; omega
        have e88 : ((l[k].toNat : Int) == 88) = false := by rw [beq_eq_false_iff_ne]; omega
        have e32 : ((l[k].toNat : Int) == 32) = false := by rw [beq_eq_false_iff_ne]; omega
        have e45 : ((l[k].toNat : Int) == 45) = false := by rw [beq_eq_false_iff_ne]; omega
        have e47 : ((l[k].toNat : Int) == 47) = false := by rw [beq_eq_false_iff_ne]; omega
        have u73 : decide ((l[k].toNat : Int) ≤ 73) = false := by rw [decide_eq_false_iff_not]; omega
        have u43 : decide ((l[k].toNat : Int) ≤ 43) = false := by rw [decide_eq_false_iff_not]; omega
        have u64 : decide ((l[k].toNat : Int) ≤ 64) = false := by rw [decide_eq_false_iff_not]; omega
        have u94 : decide ((l[k].toNat : Int) ≤ 94) = false := by rw [decide_eq_false_iff_not]; omega
        have u126 : decide ((l[k].toNat : Int) ≤ 126) = true := by rw [decide_eq_true_iff]; omega
        go_wp2_with fail
        all_goals go_ret
        all_goals exact ⟨ret_bool (plain_bad hlt HP.out HC.out).symm, Qt.refl _⟩
      · have HC : Hid ((Fs.plainSign l[k] || (Fs.plainLetter l[k] && !(l.take k).isEmpty)) = true) := by
          have : Fs.plainSign l[k] = true := by simp [Fs.plainSign]; omega
          show _ = _
          rw [this]; rfl
        have e84 : ((l[k].toNat : Int) == 84) = false := by rw [beq_eq_false_iff_ne]; omega
        have e87 : ((l[k].toNat : Int) == 87) = false := by rw [beq_eq_false_iff_ne]; omega
        have e88 : ((l[k].toNat : Int) == 88) = false := by rw [beq_eq_false_iff_ne]; omega
        have e32 : ((l[k].toNat : Int) == 32) = false := by rw [beq_eq_false_iff_ne]; omega
        have e45 : ((l[k].toNat : Int) == 45) = false := by rw [beq_eq_false_iff_ne]; omega
        have e47 : ((l[k].toNat : Int) == 47) = false := by rw [beq_eq_false_iff_ne]; omega
        have u73 : decide ((l[k].toNat : Int) ≤ 73) = false := by rw [decide_eq_false_iff_not]; omega
        have u43 : decide ((l[k].toNat : Int) ≤ 43) = false := by rw [decide_eq_false_iff_not]; omega
        have u64 : decide ((l[k].toNat : Int) ≤ 64) = false := by rw [decide_eq_false_iff_not]; omega
        have u94 : decide ((l[k].toNat : Int) ≤ 94) = false := by rw [decide_eq_false_iff_not]; omega
        have u126 : decide ((l[k].toNat : Int) ≤ 126) = true := by rw [decide_eq_true_iff]; omega
        go_wp2_with fail
        all_goals refine ⟨⟨k + 1, by omega, plain_on hlt HP.out HC.out, by go_num⟩, by simp [intOf]; omega⟩
      · have HC : Hid ((Fs.plainSign l[k] || (Fs.plainLetter l[k] && !(l.take k).isEmpty)) = false) := by
          have h3 : Fs.plainSign l[k] = false := by simp [Fs.plainSign]; omega
          have h4 : Fs.plainLetter l[k] = false := by simp [Fs.plainLetter]; omega
          show _ = _
          rw [h3, h4]; rfl
        have e84 : ((l[k].toNat : Int) == 84) = false := by rw [beq_eq_false_iff_ne]; omega
        have e87 : ((l[k].toNat : Int) == 87) = false := by rw [beq_eq_false_iff_ne]; omega
        have e88 : ((l[k].toNat : Int) == 88) = false := by rw [beq_eq_false_iff_ne]; omega
        have e32 : ((l[k].toNat : Int) == 32) = false := by rw [beq_eq_false_iff_ne]; omega
        have e45 : ((l[k].toNat : Int) == 45) = false := by rw [beq_eq_false_iff_ne]; omega
        have e47 : ((l[k].toNat : Int) == 47) = false := by rw [beq_eq_false_iff_ne]; omega
        have u73 : decide ((l[k].toNat : Int) ≤ 73) = false := by rw [decide_eq_false_iff_not]; omega
        have u43 : decide ((l[k].toNat : Int) ≤ 43) = false := by rw [decide_eq_false_iff_not]; omega
        have u64 : decide ((l[k].toNat : Int) ≤ 64) = false := by rw [decide_eq_false_iff_not]; omega
        have u94 : decide ((l[k].toNat : Int) ≤ 94) = false := by rw [decide_eq_false_iff_not]; omega
        have u126 : decide ((l[k].toNat : Int) ≤ 126) = false := by rw [decide_eq_false_iff_not]; omega
        go_wp2_with fail
        all_goals go_ret
        all_goals exact ⟨ret_bool (plain_bad hlt HP.out HC.out).symm, Qt.refl _⟩
    · have HR : Hid (Fs.plain l = decide (l.length ≤ 1000)) := by
        have h := HP.out
        rw [List.take_of_length_le (by omega)] at h
        show _ = _
        simp [Fs.plain, h]
      go_wp2_with fail
      go_ret
      exact ⟨ret_bool (by rw [HR.out, Bool.eq_iff_iff]; simp; omega), Qt.refl _⟩

end Go.Proofs.YtjkfjlifcilejaaDoor
