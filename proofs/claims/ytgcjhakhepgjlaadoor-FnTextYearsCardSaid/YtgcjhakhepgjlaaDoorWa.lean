/-
  WALKS, part a: the small functions on texts.
-/
import Derived.Test.YtgcjhakhepgjlaaDoorStr
import Derived.Deep.QuietTactic
import Derived.BigQuiet
import Derived.Test.YtgcjhakhepgjlaaDoorFs
namespace Go.Proofs.YtgcjhakhepgjlaaDoor
open Go.RowKit
set_option linter.unusedVariables false
attribute [local go_sem] ByteArray.extract_mk get_mk ByteArray.toList_mk ByteArray.mk_append_mk take_drop_len

theorem comma_any (c : UInt8) (w : World) :
    Calls Tryd.prog 62 #[.int .u8 c.toNat] w fun e w' => e = .returned (.bool (Fs.comma c)) ∧ Qt w w' := by
  by_cases h1 : c.toNat = 46
  · have hb : ((c.toNat : Int) == 46) = true := by rw [beq_iff_eq]; omega
    go_enter Tryd.func62, Tryd.ntmps62
    go_wp2
    go_ret
    exact ⟨by simp [Fs.comma, h1], Qt.refl _⟩
  · have hb : ((c.toNat : Int) == 46) = false := by rw [beq_eq_false_iff_ne]; omega
    by_cases h2 : c.toNat = 44
    · have hb2 : ((c.toNat : Int) == 44) = true := by rw [beq_iff_eq]; omega
      go_enter Tryd.func62, Tryd.ntmps62
      go_wp2
      go_ret
      exact ⟨by simp [Fs.comma, h2], Qt.refl _⟩
    · have hb2 : ((c.toNat : Int) == 44) = false := by rw [beq_eq_false_iff_ne]; omega
      go_enter Tryd.func62, Tryd.ntmps62
      go_wp2
      go_ret
      exact ⟨by simp [Fs.comma, h1, h2], Qt.refl _⟩

theorem isDigit_any (l : List UInt8) (i : Nat) (w : World) (hl : l.length ≤ 140737488351232) (hi : i ≤ 140737488351232) :
    Calls Tryd.prog 42 #[.string ⟨l.toArray⟩, .int .i64 i] w fun e w' => e = .returned (.bool (Fs.digAt l i)) ∧ Qt w w' := by
  by_cases hlt : i < l.length
  · go_enter Tryd.func42, Tryd.ntmps42
    go_wp2
    all_goals go_ret
    all_goals refine ⟨ret_bool ?_, Qt.refl _⟩
    all_goals simp only [Fs.digAt, Fs.isDig, List.getElem?_eq_getElem hlt]
    all_goals rw [Bool.eq_iff_iff]
    all_goals simp <;> omega
  · go_enter Tryd.func42, Tryd.ntmps42
    go_wp2
    go_ret
    exact ⟨ret_bool (by simp [Fs.digAt, List.getElem?_eq_none (show l.length ≤ i by omega)]), Qt.refl _⟩


/-- what leadingInt answers: the number and the rest, or the package's error ev -/
def leadV (ev : Value) : Option (Nat × List UInt8) → Value
  | some (x, r) => .tuple #[.int .u64 x, .string ⟨r.toArray⟩, .nilIface]
  | none => .tuple #[.int .u64 0, .string ⟨#[]⟩, ev]
theorem leadV_yes {ev : Value} {o : Option (Nat × List UInt8)} {x : Nat} {r : List UInt8} (h : some (x, r) = o) : Value.tuple #[.int .u64 x, .string ⟨r.toArray⟩, .nilIface] = leadV ev o := by
  subst h; rfl
theorem leadV_no {ev : Value} {o : Option (Nat × List UInt8)} (h : none = o) : Value.tuple #[.int .u64 0, .string ⟨#[]⟩, ev] = leadV ev o := by
  subst h; rfl

set_option maxHeartbeats 400000 in
theorem lead_any (l : List UInt8) (w : World) (hl : l.length ≤ 140737488351232) (ev : Value) (hev : w.cell? ⟨2, 0, none⟩ = some ev) :
    Calls Tryd.prog 79 #[.string ⟨l.toArray⟩] w fun e w' => e = .returned (leadV ev (Fs.lead 0 l)) ∧ Qt w w' := by
  go_enter Tryd.func79, Tryd.ntmps79
  go_wp2
  go_loop [2, 3, 5] (fun x r i => ∃ k X : Nat, k ≤ l.length ∧ X ≤ 9223372036854775808 ∧ Fs.lead X (l.drop k) = Fs.lead 0 l ∧ x = .int .u64 X ∧ r = .string ⟨#[]⟩ ∧ i = .int .i64 k) (fun _ _ i => l.length - (intOf i).toNat)
  case atStart => exact ⟨0, 0, Nat.zero_le _, Nat.zero_le _, rfl, rfl, rfl, rfl⟩
  case round =>
    obtain ⟨k, X, hk, hX, heq, rfl, rfl, rfl⟩ := hrel
    by_cases hlt : k < l.length
    · have hc := (l[k]).toNat_lt
      have hd : l.drop k = l[k] :: l.drop (k + 1) := List.drop_eq_getElem_cons hlt
      have HD : Hid (l.drop k = l[k] :: l.drop (k + 1)) := hd
      have HQ : Hid (Fs.lead X (l[k] :: l.drop (k + 1)) = Fs.lead 0 l) := by rw [← hd]; exact heq
      clear heq hd
      by_cases hdig : 48 ≤ (l[k].toNat : Int) ∧ (l[k].toNat : Int) ≤ 57
      · have HE : Fs.isDig l[k] = true := by simp [Fs.isDig]; omega
        have HF : Hid (Fs.isDig l[k] = true) := HE
        clear HE
        obtain ⟨hd1, hd2⟩ := hdig
        by_cases ho1 : (922337203685477580 : Int) < X
        · go_wp2
          go_quiet (fail)
          go_wp2
          go_ret3
          refine ⟨congrArg _ (leadV_no ?_), (Qt.refl _).drewN _⟩
          rw [← HQ.out]; unfold Fs.lead; rw [if_pos HF.out, if_pos (by omega)]
        · by_cases ho2 : (9223372036854775808 : Int) < X * 10 + l[k].toNat - 48
          · go_wp2
            go_quiet (fail)
            go_wp2
            go_ret3
            refine ⟨congrArg _ (leadV_no ?_), (Qt.refl _).drewN _⟩
            rw [← HQ.out]; unfold Fs.lead; rw [if_pos HF.out, if_neg (by omega), if_pos (by omega)]
          · go_wp2
            go_round
            case rel =>
              refine ⟨k + 1, X * 10 + l[k].toNat - 48, by omega, by omega, ?_, ?_, rfl, by go_num⟩
              · rw [← HQ.out]; conv => rhs; unfold Fs.lead
                rw [if_pos HF.out, if_neg (by omega), if_neg (by omega)]
              · congr 1; omega
            case measure => simp [intOf]; omega
      · have HE : Fs.isDig l[k] = false := by simp [Fs.isDig]; omega
        have HF : Hid (Fs.isDig l[k] = false) := HE
        clear HE
        by_cases hd1 : (l[k].toNat : Int) < 48
        · go_wp2
          go_quiet (fail)
          go_wp2
          go_ret3
          refine ⟨congrArg _ (leadV_yes ?_), (Qt.refl _).drewN _⟩
          rw [← HQ.out, HD.out]; unfold Fs.lead; rw [if_neg (by simp [HF.out])]
        · have hd2 : 57 < (l[k].toNat : Int) := by omega
          clear hdig
          go_wp2
          go_quiet (fail)
          go_wp2
          go_ret3
          refine ⟨congrArg _ (leadV_yes ?_), (Qt.refl _).drewN _⟩
          rw [← HQ.out, HD.out]; unfold Fs.lead; rw [if_neg (by simp [HF.out])]
    · obtain rfl : k = l.length := by omega
      rw [List.drop_length] at heq
      have HQ : Hid (Fs.lead X [] = Fs.lead 0 l) := heq
      clear heq
      go_wp2
      go_quiet (fail)
      go_wp2
      go_ret3
      refine ⟨congrArg _ (leadV_yes ?_), (Qt.refl _).drewN _⟩
      rw [← HQ.out]; simp [Fs.lead]

theorem lead_yes (l : List UInt8) (w : World) (hl : l.length ≤ 140737488351232) (ev : Value) (hev : w.cell? ⟨2, 0, none⟩ = some ev) {x : Nat} {r : List UInt8} (h : Fs.lead 0 l = some (x, r)) :
    Calls Tryd.prog 79 #[.string ⟨l.toArray⟩] w fun e w' => e = .returned (.tuple #[.int .u64 x, .string ⟨r.toArray⟩, .nilIface]) ∧ Qt w w' := by
  have := lead_any l w hl ev hev
  rw [h] at this
  exact this
theorem lead_no (l : List UInt8) (w : World) (hl : l.length ≤ 140737488351232) (ev : Value) (hev : w.cell? ⟨2, 0, none⟩ = some ev) (h : Fs.lead 0 l = none) :
    Calls Tryd.prog 79 #[.string ⟨l.toArray⟩] w fun e w' => e = .returned (.tuple #[.int .u64 0, .string ⟨#[]⟩, ev]) ∧ Qt w w' := by
  have := lead_any l w hl ev hev
  rw [h] at this
  exact this

end Go.Proofs.YtgcjhakhepgjlaaDoor
