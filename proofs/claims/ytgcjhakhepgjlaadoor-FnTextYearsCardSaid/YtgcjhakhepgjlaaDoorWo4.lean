/-
  WALKS, part o: the rounds of nextStdChunk's loop at the signs 46, 44, all others (printed by wip/py/gen_next2.py).
-/
import Derived.Test.YtgcjhakhepgjlaaDoorWo
namespace Go.Proofs.YtgcjhakhepgjlaaDoor
open Go.RowKit
set_option linter.unusedVariables false
set_option linter.unusedSimpArgs false
attribute [local go_sem] ByteArray.extract_mk get_mk ByteArray.toList_mk ByteArray.mk_append_mk take_drop_len

set_option maxRecDepth 100000 in
set_option maxHeartbeats 4000000 in
theorem round_c46 (l : List UInt8) (hl : l.length ≤ 140737488351000) (w w1 : World) (E1 : HStd w1) (hq0 : Qt w w1) (k : Nat) (hk : k ≤ l.length) (HN : Hid (Fs.next l = Fs.pre (l.take k) (Fs.next (l.drop k)))) (u : Nat → Value)
    (hlt : k < l.length) (hc : (l[k].toNat : Int) = 46) (Q0 : Exit → Act → World → Prop) (HR : NR l w Q0) :
    Code.wp Tryd.prog nscBody (Exit.then (fun a' w' => NI l w a' w' ∧ Nmu l a' < l.length - k) Q0) (nscF l k u) w1 := by
  conv => arg 2; whnf
  unfold nscF
  have hb := byte_lt l[k]
  have HC := hide hc
  by_cases hl1 : k + 1 < l.length
  · have hl2 : (k : Int) + 1 < l.length := by omega
    have hb1 := byte_lt l[k + 1]
    by_cases hd : (l[k + 1].toNat : Int) = 48 ∨ (l[k + 1].toNat : Int) = 57
    · rcases hd with hd | hd
      · have HDD := hide hd
        go_wp2_with fail
        refine wp_loop (FI l w1 k 46 48) (fun a _ => Fmu l a) ?start ?round
        case start => exact ⟨rfl, rfl, rfl, rfl, rfl, rfl, rfl, 0, by omega, by simp, rfl⟩
        case round =>
          rintro a2 w2 ⟨rfl, hs2, hdf2, h02, h52, h62, h72, M, hM, hR, h82⟩
          obtain ⟨u2, hu2, ha2⟩ := lay654 a2 hs2 hdf2
          rw [hu2] at h02 h52 h62 h72 h82
          rw [ha2, h02, h52, h62, h72, h82]
          clear ha2 hu2 hs2 hdf2 h02 h52 h62 h72 h82
          have HR2 := hide hR
          clear hR hc hd
          obtain ⟨j, hj⟩ : ∃ j, j = k + 1 + M := ⟨_, rfl⟩
          rw [← hj]
          have HJ := hide hj
          have hj1 : j ≤ l.length := by omega
          have hj2 : k + 1 ≤ j := by omega
          have hj3 : j - (k + 1) = M := by omega
          have HJ3 := hide hj3
          clear hj hj3
          by_cases hlj : j < l.length
          · have hbj := byte_lt l[j]
            by_cases hej : (l[j].toNat : Int) = 48
            · have HE := hide hej
              go_wp2_with fail
              exact ⟨FI_mk rfl rfl rfl rfl rfl rfl (M + 1) (by have := HJ.out; omega) (run_more (n := 48) (by omega) hlj HJ.out HE.out HR2.out) (by have := HJ.out; show Value.int _ _ = _; congr 1; omega), Fmu_lt j hlj rfl rfl⟩
            · have nej : ((l[j].toNat : Int) == 48) = false := by rw [beq_eq_false_iff_ne]; exact hej
              have HR3 := hide (run_stop (n := 48) (by omega) hlj HJ.out hej HR2.out)
              clear hej
              have hlt2 : (k : Int) + 1 < l.length := by omega
              by_cases hdig : Fs.digAt l j = true
              · have HS : Hid (Fs.step (List.drop k l) = none) := step_fr_none (m := 46) (dd := 48) (code := 34) hlt HC.out (by omega) hl1 HDD.out (by omega) HR3.out (by rw [← HJ.out]; exact hdig)
                go_wp2_with fail
                refine (isDigit_any l j _ (by omega) (by omega)).mono ?_
                rintro e w3 ⟨rfl, hq3⟩
                go_wp2_with fail
                exact ⟨NI_mk (hq0.trans hq3) rfl rfl rfl (k + 1) (by omega) (Fs.next_on hlt HS.out HN.out) (by show Value.int _ _ = _; congr 1), Nmu_lt k hlt rfl⟩
              · have hdig : Fs.digAt l j = false := by simpa using hdig
                have HS : Hid (Fs.step (List.drop k l) = some (0, Fs.frac 34 M 46, 1 + M)) := step_fr (m := 46) (dd := 48) (code := 34) hlt HC.out (by omega) hl1 HDD.out (by omega) HR3.out (by rw [← HJ.out]; exact hdig)
                have hd1 := HDD.out
                go_wp2_with fail
                refine (isDigit_any l j _ (by omega) (by omega)).mono ?_
                rintro e w3 ⟨rfl, hq3⟩
                go_wp2_with fail
                rw [show ((j : Int) - ((k : Int) + 1)) = (M : Int) by have := HJ.out; omega]
                refine (frac_lit_34_46 M (by omega) _).mono ?_
                rintro e w4 ⟨rfl, hq4⟩
                have hjk := HJ.out
                generalize hfr : Fs.frac 34 M 46 = FR at HS
                clear hfr hjk
                go_wp2_with fail
                go_quiet (fail)
                go_wp2_with fail
                refine HR _ _ ?_
                go_ret3
                exact ⟨congrArg _ (nextV_of ((Fs.next_at HS.out HN.out).trans (by rw [HJ.out, Nat.add_assoc]; rfl))), ((hq0.trans hq3).trans hq4).drewN _⟩
          · have hlj' : ¬ (j : Int) < l.length := by omega
            have HR3 := hide (run_end (n := 48) hlj HJ.out HR2.out)
            have hlt2 : (k : Int) + 1 < l.length := by omega
            by_cases hdig : Fs.digAt l j = true
            · have HS : Hid (Fs.step (List.drop k l) = none) := step_fr_none (m := 46) (dd := 48) (code := 34) hlt HC.out (by omega) hl1 HDD.out (by omega) HR3.out (by rw [← HJ.out]; exact hdig)
              go_wp2_with fail
              refine (isDigit_any l j _ (by omega) (by omega)).mono ?_
              rintro e w3 ⟨rfl, hq3⟩
              go_wp2_with fail
              exact ⟨NI_mk (hq0.trans hq3) rfl rfl rfl (k + 1) (by omega) (Fs.next_on hlt HS.out HN.out) (by show Value.int _ _ = _; congr 1), Nmu_lt k hlt rfl⟩
            · have hdig : Fs.digAt l j = false := by simpa using hdig
              have HS : Hid (Fs.step (List.drop k l) = some (0, Fs.frac 34 M 46, 1 + M)) := step_fr (m := 46) (dd := 48) (code := 34) hlt HC.out (by omega) hl1 HDD.out (by omega) HR3.out (by rw [← HJ.out]; exact hdig)
              have hd1 := HDD.out
              go_wp2_with fail
              refine (isDigit_any l j _ (by omega) (by omega)).mono ?_
              rintro e w3 ⟨rfl, hq3⟩
              go_wp2_with fail
              rw [show ((j : Int) - ((k : Int) + 1)) = (M : Int) by have := HJ.out; omega]
              refine (frac_lit_34_46 M (by omega) _).mono ?_
              rintro e w4 ⟨rfl, hq4⟩
              have hjk := HJ.out
              generalize hfr : Fs.frac 34 M 46 = FR at HS
              clear hfr hjk
              go_wp2_with fail
              go_quiet (fail)
              go_wp2_with fail
              refine HR _ _ ?_
              go_ret3
              exact ⟨congrArg _ (nextV_of ((Fs.next_at HS.out HN.out).trans (by rw [HJ.out, Nat.add_assoc]; rfl))), ((hq0.trans hq3).trans hq4).drewN _⟩
      · have HDD := hide hd
        go_wp2_with fail
        refine wp_loop (FI l w1 k 46 57) (fun a _ => Fmu l a) ?start ?round
        case start => exact ⟨rfl, rfl, rfl, rfl, rfl, rfl, rfl, 0, by omega, by simp, rfl⟩
        case round =>
          rintro a2 w2 ⟨rfl, hs2, hdf2, h02, h52, h62, h72, M, hM, hR, h82⟩
          obtain ⟨u2, hu2, ha2⟩ := lay654 a2 hs2 hdf2
          rw [hu2] at h02 h52 h62 h72 h82
          rw [ha2, h02, h52, h62, h72, h82]
          clear ha2 hu2 hs2 hdf2 h02 h52 h62 h72 h82
          have HR2 := hide hR
          clear hR hc hd
          obtain ⟨j, hj⟩ : ∃ j, j = k + 1 + M := ⟨_, rfl⟩
          rw [← hj]
          have HJ := hide hj
          have hj1 : j ≤ l.length := by omega
          have hj2 : k + 1 ≤ j := by omega
          have hj3 : j - (k + 1) = M := by omega
          have HJ3 := hide hj3
          clear hj hj3
          by_cases hlj : j < l.length
          · have hbj := byte_lt l[j]
            by_cases hej : (l[j].toNat : Int) = 57
            · have HE := hide hej
              go_wp2_with fail
              exact ⟨FI_mk rfl rfl rfl rfl rfl rfl (M + 1) (by have := HJ.out; omega) (run_more (n := 57) (by omega) hlj HJ.out HE.out HR2.out) (by have := HJ.out; show Value.int _ _ = _; congr 1; omega), Fmu_lt j hlj rfl rfl⟩
            · have nej : ((l[j].toNat : Int) == 57) = false := by rw [beq_eq_false_iff_ne]; exact hej
              have HR3 := hide (run_stop (n := 57) (by omega) hlj HJ.out hej HR2.out)
              clear hej
              have hlt2 : (k : Int) + 1 < l.length := by omega
              by_cases hdig : Fs.digAt l j = true
              · have HS : Hid (Fs.step (List.drop k l) = none) := step_fr_none (m := 46) (dd := 57) (code := 35) hlt HC.out (by omega) hl1 HDD.out (by omega) HR3.out (by rw [← HJ.out]; exact hdig)
                go_wp2_with fail
                refine (isDigit_any l j _ (by omega) (by omega)).mono ?_
                rintro e w3 ⟨rfl, hq3⟩
                go_wp2_with fail
                exact ⟨NI_mk (hq0.trans hq3) rfl rfl rfl (k + 1) (by omega) (Fs.next_on hlt HS.out HN.out) (by show Value.int _ _ = _; congr 1), Nmu_lt k hlt rfl⟩
              · have hdig : Fs.digAt l j = false := by simpa using hdig
                have HS : Hid (Fs.step (List.drop k l) = some (0, Fs.frac 35 M 46, 1 + M)) := step_fr (m := 46) (dd := 57) (code := 35) hlt HC.out (by omega) hl1 HDD.out (by omega) HR3.out (by rw [← HJ.out]; exact hdig)
                have hd1 := HDD.out
                go_wp2_with fail
                refine (isDigit_any l j _ (by omega) (by omega)).mono ?_
                rintro e w3 ⟨rfl, hq3⟩
                go_wp2_with fail
                rw [show ((j : Int) - ((k : Int) + 1)) = (M : Int) by have := HJ.out; omega]
                refine (frac_lit_35_46 M (by omega) _).mono ?_
                rintro e w4 ⟨rfl, hq4⟩
                have hjk := HJ.out
                generalize hfr : Fs.frac 35 M 46 = FR at HS
                clear hfr hjk
                go_wp2_with fail
                go_quiet (fail)
                go_wp2_with fail
                refine HR _ _ ?_
                go_ret3
                exact ⟨congrArg _ (nextV_of ((Fs.next_at HS.out HN.out).trans (by rw [HJ.out, Nat.add_assoc]; rfl))), ((hq0.trans hq3).trans hq4).drewN _⟩
          · have hlj' : ¬ (j : Int) < l.length := by omega
            have HR3 := hide (run_end (n := 57) hlj HJ.out HR2.out)
            have hlt2 : (k : Int) + 1 < l.length := by omega
            by_cases hdig : Fs.digAt l j = true
            · have HS : Hid (Fs.step (List.drop k l) = none) := step_fr_none (m := 46) (dd := 57) (code := 35) hlt HC.out (by omega) hl1 HDD.out (by omega) HR3.out (by rw [← HJ.out]; exact hdig)
              go_wp2_with fail
              refine (isDigit_any l j _ (by omega) (by omega)).mono ?_
              rintro e w3 ⟨rfl, hq3⟩
              go_wp2_with fail
              exact ⟨NI_mk (hq0.trans hq3) rfl rfl rfl (k + 1) (by omega) (Fs.next_on hlt HS.out HN.out) (by show Value.int _ _ = _; congr 1), Nmu_lt k hlt rfl⟩
            · have hdig : Fs.digAt l j = false := by simpa using hdig
              have HS : Hid (Fs.step (List.drop k l) = some (0, Fs.frac 35 M 46, 1 + M)) := step_fr (m := 46) (dd := 57) (code := 35) hlt HC.out (by omega) hl1 HDD.out (by omega) HR3.out (by rw [← HJ.out]; exact hdig)
              have hd1 := HDD.out
              go_wp2_with fail
              refine (isDigit_any l j _ (by omega) (by omega)).mono ?_
              rintro e w3 ⟨rfl, hq3⟩
              go_wp2_with fail
              rw [show ((j : Int) - ((k : Int) + 1)) = (M : Int) by have := HJ.out; omega]
              refine (frac_lit_35_46 M (by omega) _).mono ?_
              rintro e w4 ⟨rfl, hq4⟩
              have hjk := HJ.out
              generalize hfr : Fs.frac 35 M 46 = FR at HS
              clear hfr hjk
              go_wp2_with fail
              go_quiet (fail)
              go_wp2_with fail
              refine HR _ _ ?_
              go_ret3
              exact ⟨congrArg _ (nextV_of ((Fs.next_at HS.out HN.out).trans (by rw [HJ.out, Nat.add_assoc]; rfl))), ((hq0.trans hq3).trans hq4).drewN _⟩
    · have n48 : ((l[k + 1].toNat : Int) == 48) = false := by rw [beq_eq_false_iff_ne]; exact fun e => hd (.inl e)
      have n57 : ((l[k + 1].toNat : Int) == 57) = false := by rw [beq_eq_false_iff_ne]; exact fun e => hd (.inr e)
      have HX := hide (step_fr_other (m := 46) hlt HC.out (by omega) hl1 hd)
      clear hd
      have HS : Hid (Fs.step (List.drop k l) = none) := HX
      go_wp2_with fail
      exact ⟨NI_mk hq0 rfl rfl rfl (k + 1) (by omega) (Fs.next_on hlt HS.out HN.out) (by show Value.int _ _ = _; congr 1), Nmu_lt k hlt rfl⟩
  · have hl2 : ¬ (k : Int) + 1 < l.length := by omega
    have HX := hide (step_fr_gone (m := 46) hlt HC.out (by omega) hl1)
    have HS : Hid (Fs.step (List.drop k l) = none) := HX
    go_wp2_with fail
    exact ⟨NI_mk hq0 rfl rfl rfl (k + 1) (by omega) (Fs.next_on hlt HS.out HN.out) (by show Value.int _ _ = _; congr 1), Nmu_lt k hlt rfl⟩

set_option maxRecDepth 100000 in
set_option maxHeartbeats 4000000 in
theorem round_c44 (l : List UInt8) (hl : l.length ≤ 140737488351000) (w w1 : World) (E1 : HStd w1) (hq0 : Qt w w1) (k : Nat) (hk : k ≤ l.length) (HN : Hid (Fs.next l = Fs.pre (l.take k) (Fs.next (l.drop k)))) (u : Nat → Value)
    (hlt : k < l.length) (hc : (l[k].toNat : Int) = 44) (Q0 : Exit → Act → World → Prop) (HR : NR l w Q0) :
    Code.wp Tryd.prog nscBody (Exit.then (fun a' w' => NI l w a' w' ∧ Nmu l a' < l.length - k) Q0) (nscF l k u) w1 := by
  conv => arg 2; whnf
  unfold nscF
  have hb := byte_lt l[k]
  have HC := hide hc
  by_cases hl1 : k + 1 < l.length
  · have hl2 : (k : Int) + 1 < l.length := by omega
    have hb1 := byte_lt l[k + 1]
    by_cases hd : (l[k + 1].toNat : Int) = 48 ∨ (l[k + 1].toNat : Int) = 57
    · rcases hd with hd | hd
      · have HDD := hide hd
        go_wp2_with fail
        refine wp_loop (FI l w1 k 44 48) (fun a _ => Fmu l a) ?start ?round
        case start => exact ⟨rfl, rfl, rfl, rfl, rfl, rfl, rfl, 0, by omega, by simp, rfl⟩
        case round =>
          rintro a2 w2 ⟨rfl, hs2, hdf2, h02, h52, h62, h72, M, hM, hR, h82⟩
          obtain ⟨u2, hu2, ha2⟩ := lay654 a2 hs2 hdf2
          rw [hu2] at h02 h52 h62 h72 h82
          rw [ha2, h02, h52, h62, h72, h82]
          clear ha2 hu2 hs2 hdf2 h02 h52 h62 h72 h82
          have HR2 := hide hR
          clear hR hc hd
          obtain ⟨j, hj⟩ : ∃ j, j = k + 1 + M := ⟨_, rfl⟩
          rw [← hj]
          have HJ := hide hj
          have hj1 : j ≤ l.length := by omega
          have hj2 : k + 1 ≤ j := by omega
          have hj3 : j - (k + 1) = M := by omega
          have HJ3 := hide hj3
          clear hj hj3
          by_cases hlj : j < l.length
          · have hbj := byte_lt l[j]
            by_cases hej : (l[j].toNat : Int) = 48
            · have HE := hide hej
              go_wp2_with fail
              exact ⟨FI_mk rfl rfl rfl rfl rfl rfl (M + 1) (by have := HJ.out; omega) (run_more (n := 48) (by omega) hlj HJ.out HE.out HR2.out) (by have := HJ.out; show Value.int _ _ = _; congr 1; omega), Fmu_lt j hlj rfl rfl⟩
            · have nej : ((l[j].toNat : Int) == 48) = false := by rw [beq_eq_false_iff_ne]; exact hej
              have HR3 := hide (run_stop (n := 48) (by omega) hlj HJ.out hej HR2.out)
              clear hej
              have hlt2 : (k : Int) + 1 < l.length := by omega
              by_cases hdig : Fs.digAt l j = true
              · have HS : Hid (Fs.step (List.drop k l) = none) := step_fr_none (m := 44) (dd := 48) (code := 34) hlt HC.out (by omega) hl1 HDD.out (by omega) HR3.out (by rw [← HJ.out]; exact hdig)
                go_wp2_with fail
                refine (isDigit_any l j _ (by omega) (by omega)).mono ?_
                rintro e w3 ⟨rfl, hq3⟩
                go_wp2_with fail
                exact ⟨NI_mk (hq0.trans hq3) rfl rfl rfl (k + 1) (by omega) (Fs.next_on hlt HS.out HN.out) (by show Value.int _ _ = _; congr 1), Nmu_lt k hlt rfl⟩
              · have hdig : Fs.digAt l j = false := by simpa using hdig
                have HS : Hid (Fs.step (List.drop k l) = some (0, Fs.frac 34 M 44, 1 + M)) := step_fr (m := 44) (dd := 48) (code := 34) hlt HC.out (by omega) hl1 HDD.out (by omega) HR3.out (by rw [← HJ.out]; exact hdig)
                have hd1 := HDD.out
                go_wp2_with fail
                refine (isDigit_any l j _ (by omega) (by omega)).mono ?_
                rintro e w3 ⟨rfl, hq3⟩
                go_wp2_with fail
                rw [show ((j : Int) - ((k : Int) + 1)) = (M : Int) by have := HJ.out; omega]
                refine (frac_lit_34_44 M (by omega) _).mono ?_
                rintro e w4 ⟨rfl, hq4⟩
                have hjk := HJ.out
                generalize hfr : Fs.frac 34 M 44 = FR at HS
                clear hfr hjk
                go_wp2_with fail
                go_quiet (fail)
                go_wp2_with fail
                refine HR _ _ ?_
                go_ret3
                exact ⟨congrArg _ (nextV_of ((Fs.next_at HS.out HN.out).trans (by rw [HJ.out, Nat.add_assoc]; rfl))), ((hq0.trans hq3).trans hq4).drewN _⟩
          · have hlj' : ¬ (j : Int) < l.length := by omega
            have HR3 := hide (run_end (n := 48) hlj HJ.out HR2.out)
            have hlt2 : (k : Int) + 1 < l.length := by omega
            by_cases hdig : Fs.digAt l j = true
            · have HS : Hid (Fs.step (List.drop k l) = none) := step_fr_none (m := 44) (dd := 48) (code := 34) hlt HC.out (by omega) hl1 HDD.out (by omega) HR3.out (by rw [← HJ.out]; exact hdig)
              go_wp2_with fail
              refine (isDigit_any l j _ (by omega) (by omega)).mono ?_
              rintro e w3 ⟨rfl, hq3⟩
              go_wp2_with fail
              exact ⟨NI_mk (hq0.trans hq3) rfl rfl rfl (k + 1) (by omega) (Fs.next_on hlt HS.out HN.out) (by show Value.int _ _ = _; congr 1), Nmu_lt k hlt rfl⟩
            · have hdig : Fs.digAt l j = false := by simpa using hdig
              have HS : Hid (Fs.step (List.drop k l) = some (0, Fs.frac 34 M 44, 1 + M)) := step_fr (m := 44) (dd := 48) (code := 34) hlt HC.out (by omega) hl1 HDD.out (by omega) HR3.out (by rw [← HJ.out]; exact hdig)
              have hd1 := HDD.out
              go_wp2_with fail
              refine (isDigit_any l j _ (by omega) (by omega)).mono ?_
              rintro e w3 ⟨rfl, hq3⟩
              go_wp2_with fail
              rw [show ((j : Int) - ((k : Int) + 1)) = (M : Int) by have := HJ.out; omega]
              refine (frac_lit_34_44 M (by omega) _).mono ?_
              rintro e w4 ⟨rfl, hq4⟩
              have hjk := HJ.out
              generalize hfr : Fs.frac 34 M 44 = FR at HS
              clear hfr hjk
              go_wp2_with fail
              go_quiet (fail)
              go_wp2_with fail
              refine HR _ _ ?_
              go_ret3
              exact ⟨congrArg _ (nextV_of ((Fs.next_at HS.out HN.out).trans (by rw [HJ.out, Nat.add_assoc]; rfl))), ((hq0.trans hq3).trans hq4).drewN _⟩
      · have HDD := hide hd
        go_wp2_with fail
        refine wp_loop (FI l w1 k 44 57) (fun a _ => Fmu l a) ?start ?round
        case start => exact ⟨rfl, rfl, rfl, rfl, rfl, rfl, rfl, 0, by omega, by simp, rfl⟩
        case round =>
          rintro a2 w2 ⟨rfl, hs2, hdf2, h02, h52, h62, h72, M, hM, hR, h82⟩
          obtain ⟨u2, hu2, ha2⟩ := lay654 a2 hs2 hdf2
          rw [hu2] at h02 h52 h62 h72 h82
          rw [ha2, h02, h52, h62, h72, h82]
          clear ha2 hu2 hs2 hdf2 h02 h52 h62 h72 h82
          have HR2 := hide hR
          clear hR hc hd
          obtain ⟨j, hj⟩ : ∃ j, j = k + 1 + M := ⟨_, rfl⟩
          rw [← hj]
          have HJ := hide hj
          have hj1 : j ≤ l.length := by omega
          have hj2 : k + 1 ≤ j := by omega
          have hj3 : j - (k + 1) = M := by omega
          have HJ3 := hide hj3
          clear hj hj3
          by_cases hlj : j < l.length
          · have hbj := byte_lt l[j]
            by_cases hej : (l[j].toNat : Int) = 57
            · have HE := hide hej
              go_wp2_with fail
              exact ⟨FI_mk rfl rfl rfl rfl rfl rfl (M + 1) (by have := HJ.out; omega) (run_more (n := 57) (by omega) hlj HJ.out HE.out HR2.out) (by have := HJ.out; show Value.int _ _ = _; congr 1; omega), Fmu_lt j hlj rfl rfl⟩
            · have nej : ((l[j].toNat : Int) == 57) = false := by rw [beq_eq_false_iff_ne]; exact hej
              have HR3 := hide (run_stop (n := 57) (by omega) hlj HJ.out hej HR2.out)
              clear hej
              have hlt2 : (k : Int) + 1 < l.length := by omega
              by_cases hdig : Fs.digAt l j = true
              · have HS : Hid (Fs.step (List.drop k l) = none) := step_fr_none (m := 44) (dd := 57) (code := 35) hlt HC.out (by omega) hl1 HDD.out (by omega) HR3.out (by rw [← HJ.out]; exact hdig)
                go_wp2_with fail
                refine (isDigit_any l j _ (by omega) (by omega)).mono ?_
                rintro e w3 ⟨rfl, hq3⟩
                go_wp2_with fail
                exact ⟨NI_mk (hq0.trans hq3) rfl rfl rfl (k + 1) (by omega) (Fs.next_on hlt HS.out HN.out) (by show Value.int _ _ = _; congr 1), Nmu_lt k hlt rfl⟩
              · have hdig : Fs.digAt l j = false := by simpa using hdig
                have HS : Hid (Fs.step (List.drop k l) = some (0, Fs.frac 35 M 44, 1 + M)) := step_fr (m := 44) (dd := 57) (code := 35) hlt HC.out (by omega) hl1 HDD.out (by omega) HR3.out (by rw [← HJ.out]; exact hdig)
                have hd1 := HDD.out
                go_wp2_with fail
                refine (isDigit_any l j _ (by omega) (by omega)).mono ?_
                rintro e w3 ⟨rfl, hq3⟩
                go_wp2_with fail
                rw [show ((j : Int) - ((k : Int) + 1)) = (M : Int) by have := HJ.out; omega]
                refine (frac_lit_35_44 M (by omega) _).mono ?_
                rintro e w4 ⟨rfl, hq4⟩
                have hjk := HJ.out
                generalize hfr : Fs.frac 35 M 44 = FR at HS
                clear hfr hjk
                go_wp2_with fail
                go_quiet (fail)
                go_wp2_with fail
                refine HR _ _ ?_
                go_ret3
                exact ⟨congrArg _ (nextV_of ((Fs.next_at HS.out HN.out).trans (by rw [HJ.out, Nat.add_assoc]; rfl))), ((hq0.trans hq3).trans hq4).drewN _⟩
          · have hlj' : ¬ (j : Int) < l.length := by omega
            have HR3 := hide (run_end (n := 57) hlj HJ.out HR2.out)
            have hlt2 : (k : Int) + 1 < l.length := by omega
            by_cases hdig : Fs.digAt l j = true
            · have HS : Hid (Fs.step (List.drop k l) = none) := step_fr_none (m := 44) (dd := 57) (code := 35) hlt HC.out (by omega) hl1 HDD.out (by omega) HR3.out (by rw [← HJ.out]; exact hdig)
              go_wp2_with fail
              refine (isDigit_any l j _ (by omega) (by omega)).mono ?_
              rintro e w3 ⟨rfl, hq3⟩
              go_wp2_with fail
              exact ⟨NI_mk (hq0.trans hq3) rfl rfl rfl (k + 1) (by omega) (Fs.next_on hlt HS.out HN.out) (by show Value.int _ _ = _; congr 1), Nmu_lt k hlt rfl⟩
            · have hdig : Fs.digAt l j = false := by simpa using hdig
              have HS : Hid (Fs.step (List.drop k l) = some (0, Fs.frac 35 M 44, 1 + M)) := step_fr (m := 44) (dd := 57) (code := 35) hlt HC.out (by omega) hl1 HDD.out (by omega) HR3.out (by rw [← HJ.out]; exact hdig)
              have hd1 := HDD.out
              go_wp2_with fail
              refine (isDigit_any l j _ (by omega) (by omega)).mono ?_
              rintro e w3 ⟨rfl, hq3⟩
              go_wp2_with fail
              rw [show ((j : Int) - ((k : Int) + 1)) = (M : Int) by have := HJ.out; omega]
              refine (frac_lit_35_44 M (by omega) _).mono ?_
              rintro e w4 ⟨rfl, hq4⟩
              have hjk := HJ.out
              generalize hfr : Fs.frac 35 M 44 = FR at HS
              clear hfr hjk
              go_wp2_with fail
              go_quiet (fail)
              go_wp2_with fail
              refine HR _ _ ?_
              go_ret3
              exact ⟨congrArg _ (nextV_of ((Fs.next_at HS.out HN.out).trans (by rw [HJ.out, Nat.add_assoc]; rfl))), ((hq0.trans hq3).trans hq4).drewN _⟩
    · have n48 : ((l[k + 1].toNat : Int) == 48) = false := by rw [beq_eq_false_iff_ne]; exact fun e => hd (.inl e)
      have n57 : ((l[k + 1].toNat : Int) == 57) = false := by rw [beq_eq_false_iff_ne]; exact fun e => hd (.inr e)
      have HX := hide (step_fr_other (m := 44) hlt HC.out (by omega) hl1 hd)
      clear hd
      have HS : Hid (Fs.step (List.drop k l) = none) := HX
      go_wp2_with fail
      exact ⟨NI_mk hq0 rfl rfl rfl (k + 1) (by omega) (Fs.next_on hlt HS.out HN.out) (by show Value.int _ _ = _; congr 1), Nmu_lt k hlt rfl⟩
  · have hl2 : ¬ (k : Int) + 1 < l.length := by omega
    have HX := hide (step_fr_gone (m := 44) hlt HC.out (by omega) hl1)
    have HS : Hid (Fs.step (List.drop k l) = none) := HX
    go_wp2_with fail
    exact ⟨NI_mk hq0 rfl rfl rfl (k + 1) (by omega) (Fs.next_on hlt HS.out HN.out) (by show Value.int _ _ = _; congr 1), Nmu_lt k hlt rfl⟩

set_option maxRecDepth 100000 in
set_option maxHeartbeats 4000000 in
theorem round_other (l : List UInt8) (hl : l.length ≤ 140737488351000) (w w1 : World) (E1 : HStd w1) (hq0 : Qt w w1) (k : Nat) (hk : k ≤ l.length) (HN : Hid (Fs.next l = Fs.pre (l.take k) (Fs.next (l.drop k)))) (u : Nat → Value)
    (hlt : k < l.length) (hc74 : ¬ (l[k].toNat : Int) = 74) (hc77 : ¬ (l[k].toNat : Int) = 77) (hc48 : ¬ (l[k].toNat : Int) = 48) (hc49 : ¬ (l[k].toNat : Int) = 49) (hc50 : ¬ (l[k].toNat : Int) = 50) (hc95 : ¬ (l[k].toNat : Int) = 95) (hc51 : ¬ (l[k].toNat : Int) = 51) (hc52 : ¬ (l[k].toNat : Int) = 52) (hc53 : ¬ (l[k].toNat : Int) = 53) (hc80 : ¬ (l[k].toNat : Int) = 80) (hc112 : ¬ (l[k].toNat : Int) = 112) (hc45 : ¬ (l[k].toNat : Int) = 45) (hc90 : ¬ (l[k].toNat : Int) = 90) (hc46 : ¬ (l[k].toNat : Int) = 46) (hc44 : ¬ (l[k].toNat : Int) = 44) (Q0 : Exit → Act → World → Prop) (HR : NR l w Q0) :
    Code.wp Tryd.prog nscBody (Exit.then (fun a' w' => NI l w a' w' ∧ Nmu l a' < l.length - k) Q0) (nscF l k u) w1 := by
  conv => arg 2; whnf
  unfold nscF
  have hb := byte_lt l[k]
  have HX := hide (step_other hlt hc74 hc77 hc48 hc49 hc50 hc95 hc51 hc52 hc53 hc80 hc112 hc45 hc90 hc46 hc44)
  have n74 : ((l[k].toNat : Int) == 74) = false := by rw [beq_eq_false_iff_ne]; exact hc74
  have n77 : ((l[k].toNat : Int) == 77) = false := by rw [beq_eq_false_iff_ne]; exact hc77
  have n48 : ((l[k].toNat : Int) == 48) = false := by rw [beq_eq_false_iff_ne]; exact hc48
  have n49 : ((l[k].toNat : Int) == 49) = false := by rw [beq_eq_false_iff_ne]; exact hc49
  have n50 : ((l[k].toNat : Int) == 50) = false := by rw [beq_eq_false_iff_ne]; exact hc50
  have n95 : ((l[k].toNat : Int) == 95) = false := by rw [beq_eq_false_iff_ne]; exact hc95
  have n51 : ((l[k].toNat : Int) == 51) = false := by rw [beq_eq_false_iff_ne]; exact hc51
  have n52 : ((l[k].toNat : Int) == 52) = false := by rw [beq_eq_false_iff_ne]; exact hc52
  have n53 : ((l[k].toNat : Int) == 53) = false := by rw [beq_eq_false_iff_ne]; exact hc53
  have n80 : ((l[k].toNat : Int) == 80) = false := by rw [beq_eq_false_iff_ne]; exact hc80
  have n112 : ((l[k].toNat : Int) == 112) = false := by rw [beq_eq_false_iff_ne]; exact hc112
  have n45 : ((l[k].toNat : Int) == 45) = false := by rw [beq_eq_false_iff_ne]; exact hc45
  have n90 : ((l[k].toNat : Int) == 90) = false := by rw [beq_eq_false_iff_ne]; exact hc90
  have n46 : ((l[k].toNat : Int) == 46) = false := by rw [beq_eq_false_iff_ne]; exact hc46
  have n44 : ((l[k].toNat : Int) == 44) = false := by rw [beq_eq_false_iff_ne]; exact hc44
  clear hc74 hc77 hc48 hc49 hc50 hc95 hc51 hc52 hc53 hc80 hc112 hc45 hc90 hc46 hc44
  have HS : Hid (Fs.step (List.drop k l) = none) := HX
  go_wp2_with fail
  exact ⟨NI_mk hq0 rfl rfl rfl (k + 1) (by omega) (Fs.next_on hlt HS.out HN.out) (by show Value.int _ _ = _; congr 1), Nmu_lt k hlt rfl⟩

end Go.Proofs.YtgcjhakhepgjlaaDoor
