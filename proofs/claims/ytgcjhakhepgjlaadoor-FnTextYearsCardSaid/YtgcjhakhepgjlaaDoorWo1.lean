/-
  WALKS, part o: the rounds of nextStdChunk's loop at the signs 74, 77, 48 (printed by wip/py/gen_next2.py).
-/
import Derived.Test.YtgcjhakhepgjlaaDoorWo
namespace Go.Proofs.YtgcjhakhepgjlaaDoor
open Go.RowKit
set_option linter.unusedVariables false
set_option linter.unusedSimpArgs false
attribute [local go_sem] ByteArray.extract_mk get_mk ByteArray.toList_mk ByteArray.mk_append_mk take_drop_len

set_option maxRecDepth 100000 in
set_option maxHeartbeats 4000000 in
theorem round_c74 (l : List UInt8) (hl : l.length ≤ 140737488351000) (w w1 : World) (E1 : HStd w1) (hq0 : Qt w w1) (k : Nat) (hk : k ≤ l.length) (HN : Hid (Fs.next l = Fs.pre (l.take k) (Fs.next (l.drop k)))) (u : Nat → Value)
    (hlt : k < l.length) (hc : (l[k].toNat : Int) = 74) (Q0 : Exit → Act → World → Prop) (HR : NR l w Q0) :
    Code.wp Tryd.prog nscBody (Exit.then (fun a' w' => NI l w a' w' ∧ Nmu l a' < l.length - k) Q0) (nscF l k u) w1 := by
  conv => arg 2; whnf
  unfold nscF
  have hb := byte_lt l[k]
  have HC := hide hc
  by_cases h1 : List.take 3 (List.drop k l) = [74, 97, 110]
  · have b3 : (List.take 3 (List.drop k l) == [74, 97, 110]) = true := by rw [beq_iff_eq]; exact h1
    have le4 := take_long (k := k) (n := 3) rfl (by omega) h1
    have F2 := hide h1
    clear h1
    by_cases h5 : List.take 7 (List.drop k l) = [74, 97, 110, 117, 97, 114, 121]
    · have b7 : (List.take 7 (List.drop k l) == [74, 97, 110, 117, 97, 114, 121]) = true := by rw [beq_iff_eq]; exact h5
      have le8 := take_long (k := k) (n := 7) rfl (by omega) h5
      have F6 := hide h5
      clear h5
      have HS : Hid (Fs.step (List.drop k l) = some (0, 257, 7)) := (by show _ = _; rw [step_J hlt HC.out, if_pos F2.out, if_pos F6.out])
      go_wp2_with fail
      go_quiet (fail)
      go_wp2_with fail
      refine HR _ _ ?_
      go_ret3
      exact ⟨congrArg _ (nextV_of (Fs.next_at HS.out HN.out)), hq0.drewN _⟩
    · have b7 : (List.take 7 (List.drop k l) == [74, 97, 110, 117, 97, 114, 121]) = false := by rw [beq_eq_false_iff_ne]; exact h5
      have F6 := hide h5
      clear h5
      by_cases le8 : (k : Int) + 7 ≤ l.length
      · by_cases hl : Fs.low (List.drop (k + 3) l) = true
        · have HL := hide hl
          have HS : Hid (Fs.step (List.drop k l) = none) := (by show _ = _; rw [step_J hlt HC.out, if_pos F2.out, if_neg F6.out, if_pos HL.out])
          go_wp2_with fail
          refine (low_any (List.drop (k + 3) l) _ (by rw [List.length_drop]; omega)).mono ?_
          rintro e w2 ⟨rfl, hq2⟩
          go_wp2_with fail
          exact ⟨NI_mk (hq0.trans hq2) rfl rfl rfl (k + 1) (by omega) (Fs.next_on hlt HS.out HN.out) (by show Value.int _ _ = _; congr 1), Nmu_lt k hlt rfl⟩
        · have hl : Fs.low (List.drop (k + 3) l) = false := by simpa using hl
          have HL : Hid (¬ Fs.low (List.drop (k + 3) l) = true) := by show ¬ _; simp [hl]
          have HS : Hid (Fs.step (List.drop k l) = some (0, 258, 3)) := (by show _ = _; rw [step_J hlt HC.out, if_pos F2.out, if_neg F6.out, if_neg HL.out])
          go_wp2_with fail
          refine (low_any (List.drop (k + 3) l) _ (by rw [List.length_drop]; omega)).mono ?_
          rintro e w2 ⟨rfl, hq2⟩
          go_wp2_with fail
          go_quiet (fail)
          go_wp2_with fail
          refine HR _ _ ?_
          go_ret3
          exact ⟨congrArg _ (nextV_of (Fs.next_at HS.out HN.out)), (hq0.trans hq2).drewN _⟩
      · by_cases hl : Fs.low (List.drop (k + 3) l) = true
        · have HL := hide hl
          have HS : Hid (Fs.step (List.drop k l) = none) := (by show _ = _; rw [step_J hlt HC.out, if_pos F2.out, if_neg F6.out, if_pos HL.out])
          go_wp2_with fail
          refine (low_any (List.drop (k + 3) l) _ (by rw [List.length_drop]; omega)).mono ?_
          rintro e w2 ⟨rfl, hq2⟩
          go_wp2_with fail
          exact ⟨NI_mk (hq0.trans hq2) rfl rfl rfl (k + 1) (by omega) (Fs.next_on hlt HS.out HN.out) (by show Value.int _ _ = _; congr 1), Nmu_lt k hlt rfl⟩
        · have hl : Fs.low (List.drop (k + 3) l) = false := by simpa using hl
          have HL : Hid (¬ Fs.low (List.drop (k + 3) l) = true) := by show ¬ _; simp [hl]
          have HS : Hid (Fs.step (List.drop k l) = some (0, 258, 3)) := (by show _ = _; rw [step_J hlt HC.out, if_pos F2.out, if_neg F6.out, if_neg HL.out])
          go_wp2_with fail
          refine (low_any (List.drop (k + 3) l) _ (by rw [List.length_drop]; omega)).mono ?_
          rintro e w2 ⟨rfl, hq2⟩
          go_wp2_with fail
          go_quiet (fail)
          go_wp2_with fail
          refine HR _ _ ?_
          go_ret3
          exact ⟨congrArg _ (nextV_of (Fs.next_at HS.out HN.out)), (hq0.trans hq2).drewN _⟩
  · have b3 : (List.take 3 (List.drop k l) == [74, 97, 110]) = false := by rw [beq_eq_false_iff_ne]; exact h1
    have F2 := hide h1
    clear h1
    by_cases le4 : (k : Int) + 3 ≤ l.length
    · have HS : Hid (Fs.step (List.drop k l) = none) := (by show _ = _; rw [step_J hlt HC.out, if_neg F2.out])
      go_wp2_with fail
      exact ⟨NI_mk hq0 rfl rfl rfl (k + 1) (by omega) (Fs.next_on hlt HS.out HN.out) (by show Value.int _ _ = _; congr 1), Nmu_lt k hlt rfl⟩
    · have HS : Hid (Fs.step (List.drop k l) = none) := (by show _ = _; rw [step_J hlt HC.out, if_neg F2.out])
      go_wp2_with fail
      exact ⟨NI_mk hq0 rfl rfl rfl (k + 1) (by omega) (Fs.next_on hlt HS.out HN.out) (by show Value.int _ _ = _; congr 1), Nmu_lt k hlt rfl⟩

set_option maxRecDepth 100000 in
set_option maxHeartbeats 4000000 in
theorem round_c77 (l : List UInt8) (hl : l.length ≤ 140737488351000) (w w1 : World) (E1 : HStd w1) (hq0 : Qt w w1) (k : Nat) (hk : k ≤ l.length) (HN : Hid (Fs.next l = Fs.pre (l.take k) (Fs.next (l.drop k)))) (u : Nat → Value)
    (hlt : k < l.length) (hc : (l[k].toNat : Int) = 77) (Q0 : Exit → Act → World → Prop) (HR : NR l w Q0) :
    Code.wp Tryd.prog nscBody (Exit.then (fun a' w' => NI l w a' w' ∧ Nmu l a' < l.length - k) Q0) (nscF l k u) w1 := by
  conv => arg 2; whnf
  unfold nscF
  have hb := byte_lt l[k]
  have HC := hide hc
  by_cases h9 : List.take 3 (List.drop k l) = [77, 111, 110]
  · have b11 : (List.take 3 (List.drop k l) == [77, 111, 110]) = true := by rw [beq_iff_eq]; exact h9
    have le12 := take_long (k := k) (n := 3) rfl (by omega) h9
    have F10 := hide h9
    clear h9
    have HMon : Hid (List.take 3 (List.drop k l) = [77, 111, 110]) := F10.out
    by_cases h13 : List.take 6 (List.drop k l) = [77, 111, 110, 100, 97, 121]
    · have b15 : (List.take 6 (List.drop k l) == [77, 111, 110, 100, 97, 121]) = true := by rw [beq_iff_eq]; exact h13
      have le16 := take_long (k := k) (n := 6) rfl (by omega) h13
      have F14 := hide h13
      clear h13
      have HS : Hid (Fs.step (List.drop k l) = some (0, 261, 6)) := (by show _ = _; rw [step_M hlt HC.out, if_pos F10.out, if_pos F14.out])
      go_wp2_with fail
      go_quiet (fail)
      go_wp2_with fail
      refine HR _ _ ?_
      go_ret3
      exact ⟨congrArg _ (nextV_of (Fs.next_at HS.out HN.out)), hq0.drewN _⟩
    · have b15 : (List.take 6 (List.drop k l) == [77, 111, 110, 100, 97, 121]) = false := by rw [beq_eq_false_iff_ne]; exact h13
      have F14 := hide h13
      clear h13
      by_cases le16 : (k : Int) + 6 ≤ l.length
      · have bM : (List.take 3 (List.drop k l) == [77, 83, 84]) = false := by rw [mon_of HMon.out]; rfl
        by_cases hl : Fs.low (List.drop (k + 3) l) = true
        · have HL := hide hl
          have HS : Hid (Fs.step (List.drop k l) = none) := (by show _ = _; rw [step_M hlt HC.out, if_pos F10.out, if_neg F14.out, if_pos HL.out])
          go_wp2_with fail
          refine (low_any (List.drop (k + 3) l) _ (by rw [List.length_drop]; omega)).mono ?_
          rintro e w2 ⟨rfl, hq2⟩
          go_wp2_with fail
          exact ⟨NI_mk (hq0.trans hq2) rfl rfl rfl (k + 1) (by omega) (Fs.next_on hlt HS.out HN.out) (by show Value.int _ _ = _; congr 1), Nmu_lt k hlt rfl⟩
        · have hl : Fs.low (List.drop (k + 3) l) = false := by simpa using hl
          have HL : Hid (¬ Fs.low (List.drop (k + 3) l) = true) := by show ¬ _; simp [hl]
          have HS : Hid (Fs.step (List.drop k l) = some (0, 262, 3)) := (by show _ = _; rw [step_M hlt HC.out, if_pos F10.out, if_neg F14.out, if_neg HL.out])
          go_wp2_with fail
          refine (low_any (List.drop (k + 3) l) _ (by rw [List.length_drop]; omega)).mono ?_
          rintro e w2 ⟨rfl, hq2⟩
          go_wp2_with fail
          go_quiet (fail)
          go_wp2_with fail
          refine HR _ _ ?_
          go_ret3
          exact ⟨congrArg _ (nextV_of (Fs.next_at HS.out HN.out)), (hq0.trans hq2).drewN _⟩
      · have bM : (List.take 3 (List.drop k l) == [77, 83, 84]) = false := by rw [mon_of HMon.out]; rfl
        by_cases hl : Fs.low (List.drop (k + 3) l) = true
        · have HL := hide hl
          have HS : Hid (Fs.step (List.drop k l) = none) := (by show _ = _; rw [step_M hlt HC.out, if_pos F10.out, if_neg F14.out, if_pos HL.out])
          go_wp2_with fail
          refine (low_any (List.drop (k + 3) l) _ (by rw [List.length_drop]; omega)).mono ?_
          rintro e w2 ⟨rfl, hq2⟩
          go_wp2_with fail
          exact ⟨NI_mk (hq0.trans hq2) rfl rfl rfl (k + 1) (by omega) (Fs.next_on hlt HS.out HN.out) (by show Value.int _ _ = _; congr 1), Nmu_lt k hlt rfl⟩
        · have hl : Fs.low (List.drop (k + 3) l) = false := by simpa using hl
          have HL : Hid (¬ Fs.low (List.drop (k + 3) l) = true) := by show ¬ _; simp [hl]
          have HS : Hid (Fs.step (List.drop k l) = some (0, 262, 3)) := (by show _ = _; rw [step_M hlt HC.out, if_pos F10.out, if_neg F14.out, if_neg HL.out])
          go_wp2_with fail
          refine (low_any (List.drop (k + 3) l) _ (by rw [List.length_drop]; omega)).mono ?_
          rintro e w2 ⟨rfl, hq2⟩
          go_wp2_with fail
          go_quiet (fail)
          go_wp2_with fail
          refine HR _ _ ?_
          go_ret3
          exact ⟨congrArg _ (nextV_of (Fs.next_at HS.out HN.out)), (hq0.trans hq2).drewN _⟩
  · have b11 : (List.take 3 (List.drop k l) == [77, 111, 110]) = false := by rw [beq_eq_false_iff_ne]; exact h9
    have F10 := hide h9
    clear h9
    by_cases le12 : (k : Int) + 3 ≤ l.length
    · by_cases h17 : List.take 3 (List.drop k l) = [77, 83, 84]
      · have b19 : (List.take 3 (List.drop k l) == [77, 83, 84]) = true := by rw [beq_iff_eq]; exact h17
        have F18 := hide h17
        clear h17
        have HS : Hid (Fs.step (List.drop k l) = some (0, 23, 3)) := (by show _ = _; rw [step_M hlt HC.out, if_neg F10.out, if_pos F18.out])
        go_wp2_with fail
        go_quiet (fail)
        go_wp2_with fail
        refine HR _ _ ?_
        go_ret3
        exact ⟨congrArg _ (nextV_of (Fs.next_at HS.out HN.out)), hq0.drewN _⟩
      · have b19 : (List.take 3 (List.drop k l) == [77, 83, 84]) = false := by rw [beq_eq_false_iff_ne]; exact h17
        have F18 := hide h17
        clear h17
        have HS : Hid (Fs.step (List.drop k l) = none) := (by show _ = _; rw [step_M hlt HC.out, if_neg F10.out, if_neg F18.out])
        go_wp2_with fail
        exact ⟨NI_mk hq0 rfl rfl rfl (k + 1) (by omega) (Fs.next_on hlt HS.out HN.out) (by show Value.int _ _ = _; congr 1), Nmu_lt k hlt rfl⟩
    · have F20 := hide (take_short (l := l) (x := [77, 83, 84]) (k := k) (n := 3) rfl (by omega) (by omega))
      have HS : Hid (Fs.step (List.drop k l) = none) := (by show _ = _; rw [step_M hlt HC.out, if_neg F10.out, if_neg F20.out])
      go_wp2_with fail
      exact ⟨NI_mk hq0 rfl rfl rfl (k + 1) (by omega) (Fs.next_on hlt HS.out HN.out) (by show Value.int _ _ = _; congr 1), Nmu_lt k hlt rfl⟩

set_option maxRecDepth 100000 in
set_option maxHeartbeats 4000000 in
theorem round_c48 (l : List UInt8) (hl : l.length ≤ 140737488351000) (w w1 : World) (E1 : HStd w1) (hq0 : Qt w w1) (k : Nat) (hk : k ≤ l.length) (HN : Hid (Fs.next l = Fs.pre (l.take k) (Fs.next (l.drop k)))) (u : Nat → Value)
    (hlt : k < l.length) (hc : (l[k].toNat : Int) = 48) (Q0 : Exit → Act → World → Prop) (HR : NR l w Q0) :
    Code.wp Tryd.prog nscBody (Exit.then (fun a' w' => NI l w a' w' ∧ Nmu l a' < l.length - k) Q0) (nscF l k u) w1 := by
  conv => arg 2; whnf
  unfold nscF
  have hb := byte_lt l[k]
  have HC := hide hc
  obtain ⟨e0, e1, e2, e3, e4, e5⟩ := E1
  by_cases hl1 : k + 1 < l.length
  · have hl2 : (k : Int) + 2 ≤ l.length := by omega
    by_cases hr : 49 ≤ (l[k + 1].toNat : Int) ∧ (l[k + 1].toNat : Int) ≤ 54
    · have hd' : (l[k + 1].toNat : Int) = 49 ∨ (l[k + 1].toNat : Int) = 50 ∨ (l[k + 1].toNat : Int) = 51 ∨ (l[k + 1].toNat : Int) = 52 ∨ (l[k + 1].toNat : Int) = 53 ∨ (l[k + 1].toNat : Int) = 54 := by omega
      clear hr
      rcases hd' with hd | hd | hd | hd | hd | hd
      · have HS : Hid (Fs.step (List.drop k l) = some (0, 260, 2)) := step_0x (n := 49) hlt HC.out hl1 (by omega) hd (by decide)
        go_wp2_with fail
        go_quiet (fail)
        go_wp2_with fail
        refine HR _ _ ?_
        go_ret3
        exact ⟨congrArg _ (nextV_of (Fs.next_at HS.out HN.out)), hq0.drewN _⟩
      · have HS : Hid (Fs.step (List.drop k l) = some (0, 265, 2)) := step_0x (n := 50) hlt HC.out hl1 (by omega) hd (by decide)
        go_wp2_with fail
        go_quiet (fail)
        go_wp2_with fail
        refine HR _ _ ?_
        go_ret3
        exact ⟨congrArg _ (nextV_of (Fs.next_at HS.out HN.out)), hq0.drewN _⟩
      · have HS : Hid (Fs.step (List.drop k l) = some (0, 1038, 2)) := step_0x (n := 51) hlt HC.out hl1 (by omega) hd (by decide)
        go_wp2_with fail
        go_quiet (fail)
        go_wp2_with fail
        refine HR _ _ ?_
        go_ret3
        exact ⟨congrArg _ (nextV_of (Fs.next_at HS.out HN.out)), hq0.drewN _⟩
      · have HS : Hid (Fs.step (List.drop k l) = some (0, 1040, 2)) := step_0x (n := 52) hlt HC.out hl1 (by omega) hd (by decide)
        go_wp2_with fail
        go_quiet (fail)
        go_wp2_with fail
        refine HR _ _ ?_
        go_ret3
        exact ⟨congrArg _ (nextV_of (Fs.next_at HS.out HN.out)), hq0.drewN _⟩
      · have HS : Hid (Fs.step (List.drop k l) = some (0, 1042, 2)) := step_0x (n := 53) hlt HC.out hl1 (by omega) hd (by decide)
        go_wp2_with fail
        go_quiet (fail)
        go_wp2_with fail
        refine HR _ _ ?_
        go_ret3
        exact ⟨congrArg _ (nextV_of (Fs.next_at HS.out HN.out)), hq0.drewN _⟩
      · have HS : Hid (Fs.step (List.drop k l) = some (0, 276, 2)) := step_0x (n := 54) hlt HC.out hl1 (by omega) hd (by decide)
        go_wp2_with fail
        go_quiet (fail)
        go_wp2_with fail
        refine HR _ _ ?_
        go_ret3
        exact ⟨congrArg _ (nextV_of (Fs.next_at HS.out HN.out)), hq0.drewN _⟩
    · have hr1 : ¬ 49 ≤ (l[k + 1].toNat : Int) ∨ (49 ≤ (l[k + 1].toNat : Int) ∧ ¬ (l[k + 1].toNat : Int) ≤ 54) := by omega
      by_cases hl3 : k + 2 < l.length
      · have hl4 : (k : Int) + 3 ≤ l.length := by omega
        by_cases hd : (l[k + 1].toNat : Int) = 48
        · by_cases hd2 : (l[k + 2].toNat : Int) = 50
          · clear hr hr1
            have HS : Hid (Fs.step (List.drop k l) = some (0, 523, 3)) := step_00 hlt HC.out hl3 hd hd2
            go_wp2_with fail
            go_quiet (fail)
            go_wp2_with fail
            refine HR _ _ ?_
            go_ret3
            exact ⟨congrArg _ (nextV_of (Fs.next_at HS.out HN.out)), hq0.drewN _⟩
          · have nd2 : ((l[k + 2].toNat : Int) == 50) = false := by rw [beq_eq_false_iff_ne]; exact hd2
            have HX := step_0none hlt HC.out (fun _ => hr) (fun _ h => hd2 h.2)
            clear hr hr1 hd2
            have HS : Hid (Fs.step (List.drop k l) = none) := HX
            go_wp2_with fail
            exact ⟨NI_mk hq0 rfl rfl rfl (k + 1) (by omega) (Fs.next_on hlt HS.out HN.out) (by show Value.int _ _ = _; congr 1), Nmu_lt k hlt rfl⟩
        · have nd : ((l[k + 1].toNat : Int) == 48) = false := by rw [beq_eq_false_iff_ne]; exact hd
          have HX := step_0none hlt HC.out (fun _ => hr) (fun _ h => hd h.1)
          clear hr hd
          rcases hr1 with hr1 | ⟨hr1, hr2⟩
          all_goals
            have HS : Hid (Fs.step (List.drop k l) = none) := HX
            go_wp2_with fail
            exact ⟨NI_mk hq0 rfl rfl rfl (k + 1) (by omega) (Fs.next_on hlt HS.out HN.out) (by show Value.int _ _ = _; congr 1), Nmu_lt k hlt rfl⟩
      · have hl4 : ¬ (k : Int) + 3 ≤ l.length := by omega
        have HX := step_0none hlt HC.out (fun _ => hr) (fun h => absurd h hl3)
        clear hr
        rcases hr1 with hr1 | ⟨hr1, hr2⟩
        all_goals
          have HS : Hid (Fs.step (List.drop k l) = none) := HX
          go_wp2_with fail
          exact ⟨NI_mk hq0 rfl rfl rfl (k + 1) (by omega) (Fs.next_on hlt HS.out HN.out) (by show Value.int _ _ = _; congr 1), Nmu_lt k hlt rfl⟩
  · have hl2 : ¬ (k : Int) + 2 ≤ l.length := by omega
    have hl4 : ¬ (k : Int) + 3 ≤ l.length := by omega
    have HX := step_0none hlt HC.out (fun h => absurd h hl1) (fun h => absurd h (by omega))
    have HS : Hid (Fs.step (List.drop k l) = none) := HX
    go_wp2_with fail
    exact ⟨NI_mk hq0 rfl rfl rfl (k + 1) (by omega) (Fs.next_on hlt HS.out HN.out) (by show Value.int _ _ = _; congr 1), Nmu_lt k hlt rfl⟩


end Go.Proofs.YtgcjhakhepgjlaaDoor
