/-
  THE LAW FnExactAtoi: its walk: it returns true at every input.
-/
import Derived.Test.YthgncomlplnjoaaDoorWd
namespace Go.Proofs.YthgncomlplnjoaaDoor
open Go.RowKit
set_option linter.unusedVariables false
attribute [local go_sem] ByteArray.extract_mk get_mk ByteArray.toList_mk ByteArray.mk_append_mk take_drop_len

set_option maxHeartbeats 1000000 in
theorem law_FnExactAtoi (sign : Int) (l : List UInt8) (hl : l.length ≤ 9223372036854775807) (w : World) (E : ErrsA w) :
    Calls Tryd.prog 3 #[.int .i64 sign, .string ⟨l.toArray⟩] w fun e w' => e = .returned (.bool true) ∧ Qt w w' := by
  have h7 : Hid (Fs.atoi [55] = some 7) := by show _ = _; decide
  by_cases hz : (2147483647 : Int) < l.length
  · go_enter Tryd.func3, Tryd.ntmps3
    go_wp2_with fail
    go_ret
    exact ⟨rfl, Qt.refl _⟩
  · go_enter Tryd.func3, Tryd.ntmps3
    go_wp2_with fail
    refine (iAtoi_yes [55] (by simp) _ E h7.out).mono ?_
    rintro e w2 ⟨rfl, hq⟩
    by_cases hem : l = []
    · have he1 : l.isEmpty = true := by subst hem; rfl
      subst hem
      go_wp2_with fail
      go_ret
      exact ⟨rfl, hq⟩
    have he1 : l.isEmpty = false := by simpa using hem
    have hlen0 : 0 < l.length := List.length_pos_iff.2 hem
    clear hem
    by_cases h18 : (18 : Int) < l.length
    · go_wp2_with fail
      go_ret
      exact ⟨rfl, hq⟩
    have E2 := E.qt hq
    go_wp2_with fail
    go_loop [7, 8, 9] (fun v g i => ∃ (k : Nat) (V : Int), k ≤ l.length ∧ g = .bool (Fs.allDig (l.take k)) ∧ v = .int .i64 V ∧ (Fs.allDig (l.take k) = true → V = Fs.val (l.take k)) ∧ i = .int .i64 k) (fun _ _ i => l.length - (intOf i).toNat)
    case atStart => exact ⟨0, 0, by omega, by simp [Fs.allDig], rfl, by simp [Fs.val, Fs.valFrom], rfl⟩
    case round =>
      obtain ⟨k, V, hk, rfl, rfl, hV, rfl⟩ := hrel
      by_cases hlt : k < l.length
      · have hsn : l.take (k + 1) = l.take k ++ [l[k]] := by rw [List.take_succ_eq_append_getElem hlt]
        have HA : Hid (Fs.allDig (l.take (k + 1)) = (Fs.allDig (l.take k) && Fs.isDig l[k])) := by show _ = _; rw [hsn, Fs.allDig_snoc]
        have HV : Hid (Fs.val (l.take (k + 1)) = Fs.val (l.take k) * 10 + (l[k].toNat - 48)) := by show _ = _; rw [hsn, Fs.val_snoc]
        clear hsn
        by_cases hg : Fs.allDig (l.take k) = true
        · have hV2 := hV hg
          have hb := Fs.val_lt _ hg
          have hp : 10 ^ (l.take k).length ≤ 1000000000000000000 := Fs.pow_le_9 (by simp; omega)
          have hp2 : 10 ^ (l.take k).length ≤ 10 ^ 17 := Nat.pow_le_pow_right (by omega) (by simp; omega)
          have hb1 : V < 100000000000000000 := by omega
          have hb0 : 0 ≤ V := by omega
          have HV2 := hide hV2
          clear hV hV2 hb hp hp2
          by_cases hd1 : 48 ≤ (l[k].toNat : Int)
          · by_cases hd2 : (l[k].toNat : Int) ≤ 57
            · have HD : Hid (Fs.isDig l[k] = true) := by show _ = _; rw [Fs.isDig_iff]; omega
              go_wp2_with fail
              go_round
              case rel => exact ⟨k + 1, _, by omega, by rw [HA.out, hg, HD.out]; rfl, rfl, fun _ => by rw [HV.out, HV2.out]; omega, by go_num⟩
              case measure => simp [intOf]; omega
            · have HD : Hid (Fs.isDig l[k] = false) := by show _ = _; rw [Fs.isDig_not]; omega
              go_wp2_with fail
              go_round
              case rel => exact ⟨k + 1, _, by omega, by rw [HA.out, hg, HD.out]; rfl, rfl, fun h => (by rw [HA.out, HD.out, Bool.and_false] at h; cases h), by go_num⟩
              case measure => simp [intOf]; omega
          · have HD : Hid (Fs.isDig l[k] = false) := by show _ = _; rw [Fs.isDig_not]; omega
            go_wp2_with fail
            go_round
            case rel => exact ⟨k + 1, _, by omega, by rw [HA.out, hg, HD.out]; rfl, rfl, fun h => (by rw [HA.out, HD.out, Bool.and_false] at h; cases h), by go_num⟩
            case measure => simp [intOf]; omega
        · have hg : Fs.allDig (l.take k) = false := by simpa using hg
          clear hV
          go_wp2_with fail
          go_round
          case rel => exact ⟨k + 1, _, by omega, by rw [HA.out, hg]; rfl, rfl, fun h => (by rw [HA.out, hg, Bool.false_and] at h; cases h), by go_num⟩
          case measure => simp [intOf]; omega
      · have hkl : l.take k = l := List.take_of_length_le (by omega)
        rw [hkl] at hV ⊢
        clear hkl
        by_cases hg : Fs.allDig l = true
        · have hV2 := hV hg
          have hb := Fs.val_lt _ hg
          have hp : 10 ^ l.length ≤ 1000000000000000000 := Fs.pow_le_9 (by omega)
          have hb1 : V < 1000000000000000000 := by omega
          have hb0 : 0 ≤ V := by omega
          have HV2 := hide hV2
          have HG := hide hg
          clear hV hV2 hb hp
          by_cases hs1 : sign = 1
          · have bs1 : (sign == 1) = true := by rw [beq_iff_eq]; exact hs1
            clear hs1
            have HX : Hid (Fs.atoi (43 :: l) = some V) := by
              show _ = _
              rw [Fs.atoi_digits (l := 43 :: l) (b := false) rfl HG.out (by omega), HV2.out]; rfl
            have hbe : (((V) : Int) == (V)) = true := by simp
            go_wp2_with fail
            refine (iAtoi_yes (43 :: l) (by simp; omega) _ E2 HX.out).mono ?_
            rintro e w3 ⟨rfl, hq3⟩
            go_wp2_with fail
            go_ret
            exact ⟨rfl, hq.trans hq3⟩
          · have bs1 : (sign == 1) = false := by rw [beq_eq_false_iff_ne]; exact hs1
            by_cases hs2 : sign = -1
            · have bs2 : (sign == -1) = true := by rw [beq_iff_eq]; exact hs2
              clear hs1 hs2
              have HX : Hid (Fs.atoi (45 :: l) = some (-V)) := by
                show _ = _
                rw [Fs.atoi_digits (l := 45 :: l) (b := true) rfl HG.out (by omega), HV2.out]; simp
              have hbe : ((((-V)) : Int) == ((-V))) = true := by simp
              go_wp2_with fail
              refine (iAtoi_yes (45 :: l) (by simp; omega) _ E2 HX.out).mono ?_
              rintro e w3 ⟨rfl, hq3⟩
              go_wp2_with fail
              go_ret
              exact ⟨rfl, hq.trans hq3⟩
            · have bs2 : (sign == -1) = false := by rw [beq_eq_false_iff_ne]; exact hs2
              clear hs1 hs2
              have hc := (Fs.isDig_iff _).1 ((List.all_eq_true.1 HG.out) _ (List.getElem_mem hlen0))
              have n1 : ((l[0].toNat : Int) == 43) = false := by rw [beq_eq_false_iff_ne]; omega
              have n2 : ((l[0].toNat : Int) == 45) = false := by rw [beq_eq_false_iff_ne]; omega
              have HS : Hid (Fs.sign l = (false, l)) := Fs.sign_plain hlen0 (by omega) (by omega)
              clear hc
              have HX : Hid (Fs.atoi (l) = some V) := by
                show _ = _
                rw [Fs.atoi_digits (l := l) (b := false) HS.out HG.out (by omega), HV2.out]; rfl
              have hbe : (((V) : Int) == (V)) = true := by simp
              go_wp2_with fail
              refine (iAtoi_yes (l) (by omega) _ E2 HX.out).mono ?_
              rintro e w3 ⟨rfl, hq3⟩
              go_wp2_with fail
              go_ret
              exact ⟨rfl, hq.trans hq3⟩
        · have hg : Fs.allDig l = false := by simpa using hg
          have HG := hide hg
          clear hV
          by_cases hs1 : sign = 1
          · have bs1 : (sign == 1) = true := by rw [beq_iff_eq]; exact hs1
            clear hs1
            have HX : Hid (Fs.atoi (43 :: l) = none) := Fs.atoi_not (l := 43 :: l) (b := false) rfl HG.out (by omega)
            go_wp2_with fail
            refine (iAtoi_no (43 :: l) (by simp; omega) _ E2 HX.out).mono ?_
            rintro e w3 ⟨rfl, hq3⟩
            go_wp2_with fail
            go_ret
            exact ⟨rfl, hq.trans hq3⟩
          · have bs1 : (sign == 1) = false := by rw [beq_eq_false_iff_ne]; exact hs1
            by_cases hs2 : sign = -1
            · have bs2 : (sign == -1) = true := by rw [beq_iff_eq]; exact hs2
              clear hs1 hs2
              have HX : Hid (Fs.atoi (45 :: l) = none) := Fs.atoi_not (l := 45 :: l) (b := true) rfl HG.out (by omega)
              go_wp2_with fail
              refine (iAtoi_no (45 :: l) (by simp; omega) _ E2 HX.out).mono ?_
              rintro e w3 ⟨rfl, hq3⟩
              go_wp2_with fail
              go_ret
              exact ⟨rfl, hq.trans hq3⟩
            · have bs2 : (sign == -1) = false := by rw [beq_eq_false_iff_ne]; exact hs2
              clear hs1 hs2
              by_cases hc1 : l[0].toNat = 43
              · have n1 : ((l[0].toNat : Int) == 43) = true := by rw [beq_iff_eq]; omega
                clear hc1
                go_wp2_with fail
                go_ret
                exact ⟨rfl, hq⟩
              · have n1 : ((l[0].toNat : Int) == 43) = false := by rw [beq_eq_false_iff_ne]; omega
                by_cases hc2 : l[0].toNat = 45
                · have n2 : ((l[0].toNat : Int) == 45) = true := by rw [beq_iff_eq]; omega
                  clear hc1 hc2
                  go_wp2_with fail
                  go_ret
                  exact ⟨rfl, hq⟩
                · have n2 : ((l[0].toNat : Int) == 45) = false := by rw [beq_eq_false_iff_ne]; omega
                  have HS : Hid (Fs.sign l = (false, l)) := Fs.sign_plain hlen0 hc2 hc1
                  clear hc1 hc2
                  have HX : Hid (Fs.atoi (l) = none) := Fs.atoi_not (l := l) (b := false) HS.out HG.out (by omega)
                  go_wp2_with fail
                  refine (iAtoi_no (l) (by omega) _ E2 HX.out).mono ?_
                  rintro e w3 ⟨rfl, hq3⟩
                  go_wp2_with fail
                  go_ret
                  exact ⟨rfl, hq.trans hq3⟩

end Go.Proofs.YthgncomlplnjoaaDoor
