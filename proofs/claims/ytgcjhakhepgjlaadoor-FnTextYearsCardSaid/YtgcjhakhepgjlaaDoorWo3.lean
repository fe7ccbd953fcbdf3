/-
  WALKS, part o: the rounds of nextStdChunk's loop at the signs 45, 90 (printed by wip/py/gen_next2.py).
-/
import Derived.Test.YtgcjhakhepgjlaaDoorWo
namespace Go.Proofs.YtgcjhakhepgjlaaDoor
open Go.RowKit
set_option linter.unusedVariables false
set_option linter.unusedSimpArgs false
attribute [local go_sem] ByteArray.extract_mk get_mk ByteArray.toList_mk ByteArray.mk_append_mk take_drop_len

set_option maxRecDepth 100000 in
set_option maxHeartbeats 4000000 in
theorem round_c45 (l : List UInt8) (hl : l.length ≤ 140737488351000) (w w1 : World) (E1 : HStd w1) (hq0 : Qt w w1) (k : Nat) (hk : k ≤ l.length) (HN : Hid (Fs.next l = Fs.pre (l.take k) (Fs.next (l.drop k)))) (u : Nat → Value)
    (hlt : k < l.length) (hc : (l[k].toNat : Int) = 45) (Q0 : Exit → Act → World → Prop) (HR : NR l w Q0) :
    Code.wp Tryd.prog nscBody (Exit.then (fun a' w' => NI l w a' w' ∧ Nmu l a' < l.length - k) Q0) (nscF l k u) w1 := by
  conv => arg 2; whnf
  unfold nscF
  have hb := byte_lt l[k]
  have HC := hide hc
  by_cases le9 : (k : Int) + 9 ≤ l.length
  · skip
    have le3 : (k : Int) + 3 ≤ l.length := by omega
    have le5 : (k : Int) + 5 ≤ l.length := by omega
    have le6 : (k : Int) + 6 ≤ l.length := by omega
    have le7 : (k : Int) + 7 ≤ l.length := by omega
    by_cases h29 : List.take 7 (List.drop k l) = [45, 48, 55, 48, 48, 48, 48]
    · have b31 : (List.take 7 (List.drop k l) == [45, 48, 55, 48, 48, 48, 48]) = true := by rw [beq_iff_eq]; exact h29
      have F30 := hide h29
      clear h29
      have HS : Hid (Fs.step (List.drop k l) = some (0, 30, 7)) := (by show _ = _; rw [step_minus hlt HC.out, if_pos F30.out])
      go_wp2_with fail
      go_quiet (fail)
      go_wp2_with fail
      refine HR _ _ ?_
      go_ret3
      exact ⟨congrArg _ (nextV_of (Fs.next_at HS.out HN.out)), hq0.drewN _⟩
    · have b31 : (List.take 7 (List.drop k l) == [45, 48, 55, 48, 48, 48, 48]) = false := by rw [beq_eq_false_iff_ne]; exact h29
      have F30 := hide h29
      clear h29
      by_cases h32 : List.take 9 (List.drop k l) = [45, 48, 55, 58, 48, 48, 58, 48, 48]
      · have b34 : (List.take 9 (List.drop k l) == [45, 48, 55, 58, 48, 48, 58, 48, 48]) = true := by rw [beq_iff_eq]; exact h32
        have F33 := hide h32
        clear h32
        have HS : Hid (Fs.step (List.drop k l) = some (0, 33, 9)) := (by show _ = _; rw [step_minus hlt HC.out, if_neg F30.out, if_pos F33.out])
        go_wp2_with fail
        go_quiet (fail)
        go_wp2_with fail
        refine HR _ _ ?_
        go_ret3
        exact ⟨congrArg _ (nextV_of (Fs.next_at HS.out HN.out)), hq0.drewN _⟩
      · have b34 : (List.take 9 (List.drop k l) == [45, 48, 55, 58, 48, 48, 58, 48, 48]) = false := by rw [beq_eq_false_iff_ne]; exact h32
        have F33 := hide h32
        clear h32
        by_cases h35 : List.take 5 (List.drop k l) = [45, 48, 55, 48, 48]
        · have b37 : (List.take 5 (List.drop k l) == [45, 48, 55, 48, 48]) = true := by rw [beq_iff_eq]; exact h35
          have F36 := hide h35
          clear h35
          have HS : Hid (Fs.step (List.drop k l) = some (0, 29, 5)) := (by show _ = _; rw [step_minus hlt HC.out, if_neg F30.out, if_neg F33.out, if_pos F36.out])
          go_wp2_with fail
          go_quiet (fail)
          go_wp2_with fail
          refine HR _ _ ?_
          go_ret3
          exact ⟨congrArg _ (nextV_of (Fs.next_at HS.out HN.out)), hq0.drewN _⟩
        · have b37 : (List.take 5 (List.drop k l) == [45, 48, 55, 48, 48]) = false := by rw [beq_eq_false_iff_ne]; exact h35
          have F36 := hide h35
          clear h35
          by_cases h38 : List.take 6 (List.drop k l) = [45, 48, 55, 58, 48, 48]
          · have b40 : (List.take 6 (List.drop k l) == [45, 48, 55, 58, 48, 48]) = true := by rw [beq_iff_eq]; exact h38
            have F39 := hide h38
            clear h38
            have HS : Hid (Fs.step (List.drop k l) = some (0, 32, 6)) := (by show _ = _; rw [step_minus hlt HC.out, if_neg F30.out, if_neg F33.out, if_neg F36.out, if_pos F39.out])
            go_wp2_with fail
            go_quiet (fail)
            go_wp2_with fail
            refine HR _ _ ?_
            go_ret3
            exact ⟨congrArg _ (nextV_of (Fs.next_at HS.out HN.out)), hq0.drewN _⟩
          · have b40 : (List.take 6 (List.drop k l) == [45, 48, 55, 58, 48, 48]) = false := by rw [beq_eq_false_iff_ne]; exact h38
            have F39 := hide h38
            clear h38
            by_cases h41 : List.take 3 (List.drop k l) = [45, 48, 55]
            · have b43 : (List.take 3 (List.drop k l) == [45, 48, 55]) = true := by rw [beq_iff_eq]; exact h41
              have F42 := hide h41
              clear h41
              have HS : Hid (Fs.step (List.drop k l) = some (0, 31, 3)) := (by show _ = _; rw [step_minus hlt HC.out, if_neg F30.out, if_neg F33.out, if_neg F36.out, if_neg F39.out, if_pos F42.out])
              go_wp2_with fail
              go_quiet (fail)
              go_wp2_with fail
              refine HR _ _ ?_
              go_ret3
              exact ⟨congrArg _ (nextV_of (Fs.next_at HS.out HN.out)), hq0.drewN _⟩
            · have b43 : (List.take 3 (List.drop k l) == [45, 48, 55]) = false := by rw [beq_eq_false_iff_ne]; exact h41
              have F42 := hide h41
              clear h41
              have HS : Hid (Fs.step (List.drop k l) = none) := (by show _ = _; rw [step_minus hlt HC.out, if_neg F30.out, if_neg F33.out, if_neg F36.out, if_neg F39.out, if_neg F42.out])
              go_wp2_with fail
              exact ⟨NI_mk hq0 rfl rfl rfl (k + 1) (by omega) (Fs.next_on hlt HS.out HN.out) (by show Value.int _ _ = _; congr 1), Nmu_lt k hlt rfl⟩
  · skip
    by_cases le7 : (k : Int) + 7 ≤ l.length
    · skip
      have le3 : (k : Int) + 3 ≤ l.length := by omega
      have le5 : (k : Int) + 5 ≤ l.length := by omega
      have le6 : (k : Int) + 6 ≤ l.length := by omega
      by_cases h44 : List.take 7 (List.drop k l) = [45, 48, 55, 48, 48, 48, 48]
      · have b46 : (List.take 7 (List.drop k l) == [45, 48, 55, 48, 48, 48, 48]) = true := by rw [beq_iff_eq]; exact h44
        have F45 := hide h44
        clear h44
        have HS : Hid (Fs.step (List.drop k l) = some (0, 30, 7)) := (by show _ = _; rw [step_minus hlt HC.out, if_pos F45.out])
        go_wp2_with fail
        go_quiet (fail)
        go_wp2_with fail
        refine HR _ _ ?_
        go_ret3
        exact ⟨congrArg _ (nextV_of (Fs.next_at HS.out HN.out)), hq0.drewN _⟩
      · have b46 : (List.take 7 (List.drop k l) == [45, 48, 55, 48, 48, 48, 48]) = false := by rw [beq_eq_false_iff_ne]; exact h44
        have F45 := hide h44
        clear h44
        have F48 := hide (take_short (l := l) (x := [45, 48, 55, 58, 48, 48, 58, 48, 48]) (k := k) (n := 9) rfl (by omega) (by omega))
        by_cases h50 : List.take 5 (List.drop k l) = [45, 48, 55, 48, 48]
        · have b52 : (List.take 5 (List.drop k l) == [45, 48, 55, 48, 48]) = true := by rw [beq_iff_eq]; exact h50
          have F51 := hide h50
          clear h50
          have HS : Hid (Fs.step (List.drop k l) = some (0, 29, 5)) := (by show _ = _; rw [step_minus hlt HC.out, if_neg F45.out, if_neg F48.out, if_pos F51.out])
          go_wp2_with fail
          go_quiet (fail)
          go_wp2_with fail
          refine HR _ _ ?_
          go_ret3
          exact ⟨congrArg _ (nextV_of (Fs.next_at HS.out HN.out)), hq0.drewN _⟩
        · have b52 : (List.take 5 (List.drop k l) == [45, 48, 55, 48, 48]) = false := by rw [beq_eq_false_iff_ne]; exact h50
          have F51 := hide h50
          clear h50
          by_cases h53 : List.take 6 (List.drop k l) = [45, 48, 55, 58, 48, 48]
          · have b55 : (List.take 6 (List.drop k l) == [45, 48, 55, 58, 48, 48]) = true := by rw [beq_iff_eq]; exact h53
            have F54 := hide h53
            clear h53
            have HS : Hid (Fs.step (List.drop k l) = some (0, 32, 6)) := (by show _ = _; rw [step_minus hlt HC.out, if_neg F45.out, if_neg F48.out, if_neg F51.out, if_pos F54.out])
            go_wp2_with fail
            go_quiet (fail)
            go_wp2_with fail
            refine HR _ _ ?_
            go_ret3
            exact ⟨congrArg _ (nextV_of (Fs.next_at HS.out HN.out)), hq0.drewN _⟩
          · have b55 : (List.take 6 (List.drop k l) == [45, 48, 55, 58, 48, 48]) = false := by rw [beq_eq_false_iff_ne]; exact h53
            have F54 := hide h53
            clear h53
            by_cases h56 : List.take 3 (List.drop k l) = [45, 48, 55]
            · have b58 : (List.take 3 (List.drop k l) == [45, 48, 55]) = true := by rw [beq_iff_eq]; exact h56
              have F57 := hide h56
              clear h56
              have HS : Hid (Fs.step (List.drop k l) = some (0, 31, 3)) := (by show _ = _; rw [step_minus hlt HC.out, if_neg F45.out, if_neg F48.out, if_neg F51.out, if_neg F54.out, if_pos F57.out])
              go_wp2_with fail
              go_quiet (fail)
              go_wp2_with fail
              refine HR _ _ ?_
              go_ret3
              exact ⟨congrArg _ (nextV_of (Fs.next_at HS.out HN.out)), hq0.drewN _⟩
            · have b58 : (List.take 3 (List.drop k l) == [45, 48, 55]) = false := by rw [beq_eq_false_iff_ne]; exact h56
              have F57 := hide h56
              clear h56
              have HS : Hid (Fs.step (List.drop k l) = none) := (by show _ = _; rw [step_minus hlt HC.out, if_neg F45.out, if_neg F48.out, if_neg F51.out, if_neg F54.out, if_neg F57.out])
              go_wp2_with fail
              exact ⟨NI_mk hq0 rfl rfl rfl (k + 1) (by omega) (Fs.next_on hlt HS.out HN.out) (by show Value.int _ _ = _; congr 1), Nmu_lt k hlt rfl⟩
    · skip
      by_cases le6 : (k : Int) + 6 ≤ l.length
      · skip
        have le3 : (k : Int) + 3 ≤ l.length := by omega
        have le5 : (k : Int) + 5 ≤ l.length := by omega
        have F60 := hide (take_short (l := l) (x := [45, 48, 55, 48, 48, 48, 48]) (k := k) (n := 7) rfl (by omega) (by omega))
        have F63 := hide (take_short (l := l) (x := [45, 48, 55, 58, 48, 48, 58, 48, 48]) (k := k) (n := 9) rfl (by omega) (by omega))
        by_cases h65 : List.take 5 (List.drop k l) = [45, 48, 55, 48, 48]
        · have b67 : (List.take 5 (List.drop k l) == [45, 48, 55, 48, 48]) = true := by rw [beq_iff_eq]; exact h65
          have F66 := hide h65
          clear h65
          have HS : Hid (Fs.step (List.drop k l) = some (0, 29, 5)) := (by show _ = _; rw [step_minus hlt HC.out, if_neg F60.out, if_neg F63.out, if_pos F66.out])
          go_wp2_with fail
          go_quiet (fail)
          go_wp2_with fail
          refine HR _ _ ?_
          go_ret3
          exact ⟨congrArg _ (nextV_of (Fs.next_at HS.out HN.out)), hq0.drewN _⟩
        · have b67 : (List.take 5 (List.drop k l) == [45, 48, 55, 48, 48]) = false := by rw [beq_eq_false_iff_ne]; exact h65
          have F66 := hide h65
          clear h65
          by_cases h68 : List.take 6 (List.drop k l) = [45, 48, 55, 58, 48, 48]
          · have b70 : (List.take 6 (List.drop k l) == [45, 48, 55, 58, 48, 48]) = true := by rw [beq_iff_eq]; exact h68
            have F69 := hide h68
            clear h68
            have HS : Hid (Fs.step (List.drop k l) = some (0, 32, 6)) := (by show _ = _; rw [step_minus hlt HC.out, if_neg F60.out, if_neg F63.out, if_neg F66.out, if_pos F69.out])
            go_wp2_with fail
            go_quiet (fail)
            go_wp2_with fail
            refine HR _ _ ?_
            go_ret3
            exact ⟨congrArg _ (nextV_of (Fs.next_at HS.out HN.out)), hq0.drewN _⟩
          · have b70 : (List.take 6 (List.drop k l) == [45, 48, 55, 58, 48, 48]) = false := by rw [beq_eq_false_iff_ne]; exact h68
            have F69 := hide h68
            clear h68
            by_cases h71 : List.take 3 (List.drop k l) = [45, 48, 55]
            · have b73 : (List.take 3 (List.drop k l) == [45, 48, 55]) = true := by rw [beq_iff_eq]; exact h71
              have F72 := hide h71
              clear h71
              have HS : Hid (Fs.step (List.drop k l) = some (0, 31, 3)) := (by show _ = _; rw [step_minus hlt HC.out, if_neg F60.out, if_neg F63.out, if_neg F66.out, if_neg F69.out, if_pos F72.out])
              go_wp2_with fail
              go_quiet (fail)
              go_wp2_with fail
              refine HR _ _ ?_
              go_ret3
              exact ⟨congrArg _ (nextV_of (Fs.next_at HS.out HN.out)), hq0.drewN _⟩
            · have b73 : (List.take 3 (List.drop k l) == [45, 48, 55]) = false := by rw [beq_eq_false_iff_ne]; exact h71
              have F72 := hide h71
              clear h71
              have HS : Hid (Fs.step (List.drop k l) = none) := (by show _ = _; rw [step_minus hlt HC.out, if_neg F60.out, if_neg F63.out, if_neg F66.out, if_neg F69.out, if_neg F72.out])
              go_wp2_with fail
              exact ⟨NI_mk hq0 rfl rfl rfl (k + 1) (by omega) (Fs.next_on hlt HS.out HN.out) (by show Value.int _ _ = _; congr 1), Nmu_lt k hlt rfl⟩
      · skip
        by_cases le5 : (k : Int) + 5 ≤ l.length
        · skip
          have le3 : (k : Int) + 3 ≤ l.length := by omega
          have F75 := hide (take_short (l := l) (x := [45, 48, 55, 48, 48, 48, 48]) (k := k) (n := 7) rfl (by omega) (by omega))
          have F78 := hide (take_short (l := l) (x := [45, 48, 55, 58, 48, 48, 58, 48, 48]) (k := k) (n := 9) rfl (by omega) (by omega))
          by_cases h80 : List.take 5 (List.drop k l) = [45, 48, 55, 48, 48]
          · have b82 : (List.take 5 (List.drop k l) == [45, 48, 55, 48, 48]) = true := by rw [beq_iff_eq]; exact h80
            have F81 := hide h80
            clear h80
            have HS : Hid (Fs.step (List.drop k l) = some (0, 29, 5)) := (by show _ = _; rw [step_minus hlt HC.out, if_neg F75.out, if_neg F78.out, if_pos F81.out])
            go_wp2_with fail
            go_quiet (fail)
            go_wp2_with fail
            refine HR _ _ ?_
            go_ret3
            exact ⟨congrArg _ (nextV_of (Fs.next_at HS.out HN.out)), hq0.drewN _⟩
          · have b82 : (List.take 5 (List.drop k l) == [45, 48, 55, 48, 48]) = false := by rw [beq_eq_false_iff_ne]; exact h80
            have F81 := hide h80
            clear h80
            have F84 := hide (take_short (l := l) (x := [45, 48, 55, 58, 48, 48]) (k := k) (n := 6) rfl (by omega) (by omega))
            by_cases h86 : List.take 3 (List.drop k l) = [45, 48, 55]
            · have b88 : (List.take 3 (List.drop k l) == [45, 48, 55]) = true := by rw [beq_iff_eq]; exact h86
              have F87 := hide h86
              clear h86
              have HS : Hid (Fs.step (List.drop k l) = some (0, 31, 3)) := (by show _ = _; rw [step_minus hlt HC.out, if_neg F75.out, if_neg F78.out, if_neg F81.out, if_neg F84.out, if_pos F87.out])
              go_wp2_with fail
              go_quiet (fail)
              go_wp2_with fail
              refine HR _ _ ?_
              go_ret3
              exact ⟨congrArg _ (nextV_of (Fs.next_at HS.out HN.out)), hq0.drewN _⟩
            · have b88 : (List.take 3 (List.drop k l) == [45, 48, 55]) = false := by rw [beq_eq_false_iff_ne]; exact h86
              have F87 := hide h86
              clear h86
              have HS : Hid (Fs.step (List.drop k l) = none) := (by show _ = _; rw [step_minus hlt HC.out, if_neg F75.out, if_neg F78.out, if_neg F81.out, if_neg F84.out, if_neg F87.out])
              go_wp2_with fail
              exact ⟨NI_mk hq0 rfl rfl rfl (k + 1) (by omega) (Fs.next_on hlt HS.out HN.out) (by show Value.int _ _ = _; congr 1), Nmu_lt k hlt rfl⟩
        · skip
          by_cases le3 : (k : Int) + 3 ≤ l.length
          · skip
            have F90 := hide (take_short (l := l) (x := [45, 48, 55, 48, 48, 48, 48]) (k := k) (n := 7) rfl (by omega) (by omega))
            have F93 := hide (take_short (l := l) (x := [45, 48, 55, 58, 48, 48, 58, 48, 48]) (k := k) (n := 9) rfl (by omega) (by omega))
            have F96 := hide (take_short (l := l) (x := [45, 48, 55, 48, 48]) (k := k) (n := 5) rfl (by omega) (by omega))
            have F99 := hide (take_short (l := l) (x := [45, 48, 55, 58, 48, 48]) (k := k) (n := 6) rfl (by omega) (by omega))
            by_cases h101 : List.take 3 (List.drop k l) = [45, 48, 55]
            · have b103 : (List.take 3 (List.drop k l) == [45, 48, 55]) = true := by rw [beq_iff_eq]; exact h101
              have F102 := hide h101
              clear h101
              have HS : Hid (Fs.step (List.drop k l) = some (0, 31, 3)) := (by show _ = _; rw [step_minus hlt HC.out, if_neg F90.out, if_neg F93.out, if_neg F96.out, if_neg F99.out, if_pos F102.out])
              go_wp2_with fail
              go_quiet (fail)
              go_wp2_with fail
              refine HR _ _ ?_
              go_ret3
              exact ⟨congrArg _ (nextV_of (Fs.next_at HS.out HN.out)), hq0.drewN _⟩
            · have b103 : (List.take 3 (List.drop k l) == [45, 48, 55]) = false := by rw [beq_eq_false_iff_ne]; exact h101
              have F102 := hide h101
              clear h101
              have HS : Hid (Fs.step (List.drop k l) = none) := (by show _ = _; rw [step_minus hlt HC.out, if_neg F90.out, if_neg F93.out, if_neg F96.out, if_neg F99.out, if_neg F102.out])
              go_wp2_with fail
              exact ⟨NI_mk hq0 rfl rfl rfl (k + 1) (by omega) (Fs.next_on hlt HS.out HN.out) (by show Value.int _ _ = _; congr 1), Nmu_lt k hlt rfl⟩
          · skip
            have F105 := hide (take_short (l := l) (x := [45, 48, 55, 48, 48, 48, 48]) (k := k) (n := 7) rfl (by omega) (by omega))
            have F108 := hide (take_short (l := l) (x := [45, 48, 55, 58, 48, 48, 58, 48, 48]) (k := k) (n := 9) rfl (by omega) (by omega))
            have F111 := hide (take_short (l := l) (x := [45, 48, 55, 48, 48]) (k := k) (n := 5) rfl (by omega) (by omega))
            have F114 := hide (take_short (l := l) (x := [45, 48, 55, 58, 48, 48]) (k := k) (n := 6) rfl (by omega) (by omega))
            have F117 := hide (take_short (l := l) (x := [45, 48, 55]) (k := k) (n := 3) rfl (by omega) (by omega))
            have HS : Hid (Fs.step (List.drop k l) = none) := (by show _ = _; rw [step_minus hlt HC.out, if_neg F105.out, if_neg F108.out, if_neg F111.out, if_neg F114.out, if_neg F117.out])
            go_wp2_with fail
            exact ⟨NI_mk hq0 rfl rfl rfl (k + 1) (by omega) (Fs.next_on hlt HS.out HN.out) (by show Value.int _ _ = _; congr 1), Nmu_lt k hlt rfl⟩

set_option maxRecDepth 100000 in
set_option maxHeartbeats 4000000 in
theorem round_c90 (l : List UInt8) (hl : l.length ≤ 140737488351000) (w w1 : World) (E1 : HStd w1) (hq0 : Qt w w1) (k : Nat) (hk : k ≤ l.length) (HN : Hid (Fs.next l = Fs.pre (l.take k) (Fs.next (l.drop k)))) (u : Nat → Value)
    (hlt : k < l.length) (hc : (l[k].toNat : Int) = 90) (Q0 : Exit → Act → World → Prop) (HR : NR l w Q0) :
    Code.wp Tryd.prog nscBody (Exit.then (fun a' w' => NI l w a' w' ∧ Nmu l a' < l.length - k) Q0) (nscF l k u) w1 := by
  conv => arg 2; whnf
  unfold nscF
  have hb := byte_lt l[k]
  have HC := hide hc
  by_cases le9 : (k : Int) + 9 ≤ l.length
  · skip
    have le3 : (k : Int) + 3 ≤ l.length := by omega
    have le5 : (k : Int) + 5 ≤ l.length := by omega
    have le6 : (k : Int) + 6 ≤ l.length := by omega
    have le7 : (k : Int) + 7 ≤ l.length := by omega
    by_cases h119 : List.take 7 (List.drop k l) = [90, 48, 55, 48, 48, 48, 48]
    · have b121 : (List.take 7 (List.drop k l) == [90, 48, 55, 48, 48, 48, 48]) = true := by rw [beq_iff_eq]; exact h119
      have F120 := hide h119
      clear h119
      have HS : Hid (Fs.step (List.drop k l) = some (0, 25, 7)) := (by show _ = _; rw [step_zed hlt HC.out, if_pos F120.out])
      go_wp2_with fail
      go_quiet (fail)
      go_wp2_with fail
      refine HR _ _ ?_
      go_ret3
      exact ⟨congrArg _ (nextV_of (Fs.next_at HS.out HN.out)), hq0.drewN _⟩
    · have b121 : (List.take 7 (List.drop k l) == [90, 48, 55, 48, 48, 48, 48]) = false := by rw [beq_eq_false_iff_ne]; exact h119
      have F120 := hide h119
      clear h119
      by_cases h122 : List.take 9 (List.drop k l) = [90, 48, 55, 58, 48, 48, 58, 48, 48]
      · have b124 : (List.take 9 (List.drop k l) == [90, 48, 55, 58, 48, 48, 58, 48, 48]) = true := by rw [beq_iff_eq]; exact h122
        have F123 := hide h122
        clear h122
        have HS : Hid (Fs.step (List.drop k l) = some (0, 28, 9)) := (by show _ = _; rw [step_zed hlt HC.out, if_neg F120.out, if_pos F123.out])
        go_wp2_with fail
        go_quiet (fail)
        go_wp2_with fail
        refine HR _ _ ?_
        go_ret3
        exact ⟨congrArg _ (nextV_of (Fs.next_at HS.out HN.out)), hq0.drewN _⟩
      · have b124 : (List.take 9 (List.drop k l) == [90, 48, 55, 58, 48, 48, 58, 48, 48]) = false := by rw [beq_eq_false_iff_ne]; exact h122
        have F123 := hide h122
        clear h122
        by_cases h125 : List.take 5 (List.drop k l) = [90, 48, 55, 48, 48]
        · have b127 : (List.take 5 (List.drop k l) == [90, 48, 55, 48, 48]) = true := by rw [beq_iff_eq]; exact h125
          have F126 := hide h125
          clear h125
          have HS : Hid (Fs.step (List.drop k l) = some (0, 24, 5)) := (by show _ = _; rw [step_zed hlt HC.out, if_neg F120.out, if_neg F123.out, if_pos F126.out])
          go_wp2_with fail
          go_quiet (fail)
          go_wp2_with fail
          refine HR _ _ ?_
          go_ret3
          exact ⟨congrArg _ (nextV_of (Fs.next_at HS.out HN.out)), hq0.drewN _⟩
        · have b127 : (List.take 5 (List.drop k l) == [90, 48, 55, 48, 48]) = false := by rw [beq_eq_false_iff_ne]; exact h125
          have F126 := hide h125
          clear h125
          by_cases h128 : List.take 6 (List.drop k l) = [90, 48, 55, 58, 48, 48]
          · have b130 : (List.take 6 (List.drop k l) == [90, 48, 55, 58, 48, 48]) = true := by rw [beq_iff_eq]; exact h128
            have F129 := hide h128
            clear h128
            have HS : Hid (Fs.step (List.drop k l) = some (0, 27, 6)) := (by show _ = _; rw [step_zed hlt HC.out, if_neg F120.out, if_neg F123.out, if_neg F126.out, if_pos F129.out])
            go_wp2_with fail
            go_quiet (fail)
            go_wp2_with fail
            refine HR _ _ ?_
            go_ret3
            exact ⟨congrArg _ (nextV_of (Fs.next_at HS.out HN.out)), hq0.drewN _⟩
          · have b130 : (List.take 6 (List.drop k l) == [90, 48, 55, 58, 48, 48]) = false := by rw [beq_eq_false_iff_ne]; exact h128
            have F129 := hide h128
            clear h128
            by_cases h131 : List.take 3 (List.drop k l) = [90, 48, 55]
            · have b133 : (List.take 3 (List.drop k l) == [90, 48, 55]) = true := by rw [beq_iff_eq]; exact h131
              have F132 := hide h131
              clear h131
              have HS : Hid (Fs.step (List.drop k l) = some (0, 26, 3)) := (by show _ = _; rw [step_zed hlt HC.out, if_neg F120.out, if_neg F123.out, if_neg F126.out, if_neg F129.out, if_pos F132.out])
              go_wp2_with fail
              go_quiet (fail)
              go_wp2_with fail
              refine HR _ _ ?_
              go_ret3
              exact ⟨congrArg _ (nextV_of (Fs.next_at HS.out HN.out)), hq0.drewN _⟩
            · have b133 : (List.take 3 (List.drop k l) == [90, 48, 55]) = false := by rw [beq_eq_false_iff_ne]; exact h131
              have F132 := hide h131
              clear h131
              have HS : Hid (Fs.step (List.drop k l) = none) := (by show _ = _; rw [step_zed hlt HC.out, if_neg F120.out, if_neg F123.out, if_neg F126.out, if_neg F129.out, if_neg F132.out])
              go_wp2_with fail
              exact ⟨NI_mk hq0 rfl rfl rfl (k + 1) (by omega) (Fs.next_on hlt HS.out HN.out) (by show Value.int _ _ = _; congr 1), Nmu_lt k hlt rfl⟩
  · skip
    by_cases le7 : (k : Int) + 7 ≤ l.length
    · skip
      have le3 : (k : Int) + 3 ≤ l.length := by omega
      have le5 : (k : Int) + 5 ≤ l.length := by omega
      have le6 : (k : Int) + 6 ≤ l.length := by omega
      by_cases h134 : List.take 7 (List.drop k l) = [90, 48, 55, 48, 48, 48, 48]
      · have b136 : (List.take 7 (List.drop k l) == [90, 48, 55, 48, 48, 48, 48]) = true := by rw [beq_iff_eq]; exact h134
        have F135 := hide h134
        clear h134
        have HS : Hid (Fs.step (List.drop k l) = some (0, 25, 7)) := (by show _ = _; rw [step_zed hlt HC.out, if_pos F135.out])
        go_wp2_with fail
        go_quiet (fail)
        go_wp2_with fail
        refine HR _ _ ?_
        go_ret3
        exact ⟨congrArg _ (nextV_of (Fs.next_at HS.out HN.out)), hq0.drewN _⟩
      · have b136 : (List.take 7 (List.drop k l) == [90, 48, 55, 48, 48, 48, 48]) = false := by rw [beq_eq_false_iff_ne]; exact h134
        have F135 := hide h134
        clear h134
        have F138 := hide (take_short (l := l) (x := [90, 48, 55, 58, 48, 48, 58, 48, 48]) (k := k) (n := 9) rfl (by omega) (by omega))
        by_cases h140 : List.take 5 (List.drop k l) = [90, 48, 55, 48, 48]
        · have b142 : (List.take 5 (List.drop k l) == [90, 48, 55, 48, 48]) = true := by rw [beq_iff_eq]; exact h140
          have F141 := hide h140
          clear h140
          have HS : Hid (Fs.step (List.drop k l) = some (0, 24, 5)) := (by show _ = _; rw [step_zed hlt HC.out, if_neg F135.out, if_neg F138.out, if_pos F141.out])
          go_wp2_with fail
          go_quiet (fail)
          go_wp2_with fail
          refine HR _ _ ?_
          go_ret3
          exact ⟨congrArg _ (nextV_of (Fs.next_at HS.out HN.out)), hq0.drewN _⟩
        · have b142 : (List.take 5 (List.drop k l) == [90, 48, 55, 48, 48]) = false := by rw [beq_eq_false_iff_ne]; exact h140
          have F141 := hide h140
          clear h140
          by_cases h143 : List.take 6 (List.drop k l) = [90, 48, 55, 58, 48, 48]
          · have b145 : (List.take 6 (List.drop k l) == [90, 48, 55, 58, 48, 48]) = true := by rw [beq_iff_eq]; exact h143
            have F144 := hide h143
            clear h143
            have HS : Hid (Fs.step (List.drop k l) = some (0, 27, 6)) := (by show _ = _; rw [step_zed hlt HC.out, if_neg F135.out, if_neg F138.out, if_neg F141.out, if_pos F144.out])
            go_wp2_with fail
            go_quiet (fail)
            go_wp2_with fail
            refine HR _ _ ?_
            go_ret3
            exact ⟨congrArg _ (nextV_of (Fs.next_at HS.out HN.out)), hq0.drewN _⟩
          · have b145 : (List.take 6 (List.drop k l) == [90, 48, 55, 58, 48, 48]) = false := by rw [beq_eq_false_iff_ne]; exact h143
            have F144 := hide h143
            clear h143
            by_cases h146 : List.take 3 (List.drop k l) = [90, 48, 55]
            · have b148 : (List.take 3 (List.drop k l) == [90, 48, 55]) = true := by rw [beq_iff_eq]; exact h146
              have F147 := hide h146
              clear h146
              have HS : Hid (Fs.step (List.drop k l) = some (0, 26, 3)) := (by show _ = _; rw [step_zed hlt HC.out, if_neg F135.out, if_neg F138.out, if_neg F141.out, if_neg F144.out, if_pos F147.out])
              go_wp2_with fail
              go_quiet (fail)
              go_wp2_with fail
              refine HR _ _ ?_
              go_ret3
              exact ⟨congrArg _ (nextV_of (Fs.next_at HS.out HN.out)), hq0.drewN _⟩
            · have b148 : (List.take 3 (List.drop k l) == [90, 48, 55]) = false := by rw [beq_eq_false_iff_ne]; exact h146
              have F147 := hide h146
              clear h146
              have HS : Hid (Fs.step (List.drop k l) = none) := (by show _ = _; rw [step_zed hlt HC.out, if_neg F135.out, if_neg F138.out, if_neg F141.out, if_neg F144.out, if_neg F147.out])
              go_wp2_with fail
              exact ⟨NI_mk hq0 rfl rfl rfl (k + 1) (by omega) (Fs.next_on hlt HS.out HN.out) (by show Value.int _ _ = _; congr 1), Nmu_lt k hlt rfl⟩
    · skip
      by_cases le6 : (k : Int) + 6 ≤ l.length
      · skip
        have le3 : (k : Int) + 3 ≤ l.length := by omega
        have le5 : (k : Int) + 5 ≤ l.length := by omega
        have F150 := hide (take_short (l := l) (x := [90, 48, 55, 48, 48, 48, 48]) (k := k) (n := 7) rfl (by omega) (by omega))
        have F153 := hide (take_short (l := l) (x := [90, 48, 55, 58, 48, 48, 58, 48, 48]) (k := k) (n := 9) rfl (by omega) (by omega))
        by_cases h155 : List.take 5 (List.drop k l) = [90, 48, 55, 48, 48]
        · have b157 : (List.take 5 (List.drop k l) == [90, 48, 55, 48, 48]) = true := by rw [beq_iff_eq]; exact h155
          have F156 := hide h155
          clear h155
          have HS : Hid (Fs.step (List.drop k l) = some (0, 24, 5)) := (by show _ = _; rw [step_zed hlt HC.out, if_neg F150.out, if_neg F153.out, if_pos F156.out])
          go_wp2_with fail
          go_quiet (fail)
          go_wp2_with fail
          refine HR _ _ ?_
          go_ret3
          exact ⟨congrArg _ (nextV_of (Fs.next_at HS.out HN.out)), hq0.drewN _⟩
        · have b157 : (List.take 5 (List.drop k l) == [90, 48, 55, 48, 48]) = false := by rw [beq_eq_false_iff_ne]; exact h155
          have F156 := hide h155
          clear h155
          by_cases h158 : List.take 6 (List.drop k l) = [90, 48, 55, 58, 48, 48]
          · have b160 : (List.take 6 (List.drop k l) == [90, 48, 55, 58, 48, 48]) = true := by rw [beq_iff_eq]; exact h158
            have F159 := hide h158
            clear h158
            have HS : Hid (Fs.step (List.drop k l) = some (0, 27, 6)) := (by show _ = _; rw [step_zed hlt HC.out, if_neg F150.out, if_neg F153.out, if_neg F156.out, if_pos F159.out])
            go_wp2_with fail
            go_quiet (fail)
            go_wp2_with fail
            refine HR _ _ ?_
            go_ret3
            exact ⟨congrArg _ (nextV_of (Fs.next_at HS.out HN.out)), hq0.drewN _⟩
          · have b160 : (List.take 6 (List.drop k l) == [90, 48, 55, 58, 48, 48]) = false := by rw [beq_eq_false_iff_ne]; exact h158
            have F159 := hide h158
            clear h158
            by_cases h161 : List.take 3 (List.drop k l) = [90, 48, 55]
            · have b163 : (List.take 3 (List.drop k l) == [90, 48, 55]) = true := by rw [beq_iff_eq]; exact h161
              have F162 := hide h161
              clear h161
              have HS : Hid (Fs.step (List.drop k l) = some (0, 26, 3)) := (by show _ = _; rw [step_zed hlt HC.out, if_neg F150.out, if_neg F153.out, if_neg F156.out, if_neg F159.out, if_pos F162.out])
              go_wp2_with fail
              go_quiet (fail)
              go_wp2_with fail
              refine HR _ _ ?_
              go_ret3
              exact ⟨congrArg _ (nextV_of (Fs.next_at HS.out HN.out)), hq0.drewN _⟩
            · have b163 : (List.take 3 (List.drop k l) == [90, 48, 55]) = false := by rw [beq_eq_false_iff_ne]; exact h161
              have F162 := hide h161
              clear h161
              have HS : Hid (Fs.step (List.drop k l) = none) := (by show _ = _; rw [step_zed hlt HC.out, if_neg F150.out, if_neg F153.out, if_neg F156.out, if_neg F159.out, if_neg F162.out])
              go_wp2_with fail
              exact ⟨NI_mk hq0 rfl rfl rfl (k + 1) (by omega) (Fs.next_on hlt HS.out HN.out) (by show Value.int _ _ = _; congr 1), Nmu_lt k hlt rfl⟩
      · skip
        by_cases le5 : (k : Int) + 5 ≤ l.length
        · skip
          have le3 : (k : Int) + 3 ≤ l.length := by omega
          have F165 := hide (take_short (l := l) (x := [90, 48, 55, 48, 48, 48, 48]) (k := k) (n := 7) rfl (by omega) (by omega))
          have F168 := hide (take_short (l := l) (x := [90, 48, 55, 58, 48, 48, 58, 48, 48]) (k := k) (n := 9) rfl (by omega) (by omega))
          by_cases h170 : List.take 5 (List.drop k l) = [90, 48, 55, 48, 48]
          · have b172 : (List.take 5 (List.drop k l) == [90, 48, 55, 48, 48]) = true := by rw [beq_iff_eq]; exact h170
            have F171 := hide h170
            clear h170
            have HS : Hid (Fs.step (List.drop k l) = some (0, 24, 5)) := (by show _ = _; rw [step_zed hlt HC.out, if_neg F165.out, if_neg F168.out, if_pos F171.out])
            go_wp2_with fail
            go_quiet (fail)
            go_wp2_with fail
            refine HR _ _ ?_
            go_ret3
            exact ⟨congrArg _ (nextV_of (Fs.next_at HS.out HN.out)), hq0.drewN _⟩
          · have b172 : (List.take 5 (List.drop k l) == [90, 48, 55, 48, 48]) = false := by rw [beq_eq_false_iff_ne]; exact h170
            have F171 := hide h170
            clear h170
            have F174 := hide (take_short (l := l) (x := [90, 48, 55, 58, 48, 48]) (k := k) (n := 6) rfl (by omega) (by omega))
            by_cases h176 : List.take 3 (List.drop k l) = [90, 48, 55]
            · have b178 : (List.take 3 (List.drop k l) == [90, 48, 55]) = true := by rw [beq_iff_eq]; exact h176
              have F177 := hide h176
              clear h176
              have HS : Hid (Fs.step (List.drop k l) = some (0, 26, 3)) := (by show _ = _; rw [step_zed hlt HC.out, if_neg F165.out, if_neg F168.out, if_neg F171.out, if_neg F174.out, if_pos F177.out])
              go_wp2_with fail
              go_quiet (fail)
              go_wp2_with fail
              refine HR _ _ ?_
              go_ret3
              exact ⟨congrArg _ (nextV_of (Fs.next_at HS.out HN.out)), hq0.drewN _⟩
            · have b178 : (List.take 3 (List.drop k l) == [90, 48, 55]) = false := by rw [beq_eq_false_iff_ne]; exact h176
              have F177 := hide h176
              clear h176
              have HS : Hid (Fs.step (List.drop k l) = none) := (by show _ = _; rw [step_zed hlt HC.out, if_neg F165.out, if_neg F168.out, if_neg F171.out, if_neg F174.out, if_neg F177.out])
              go_wp2_with fail
              exact ⟨NI_mk hq0 rfl rfl rfl (k + 1) (by omega) (Fs.next_on hlt HS.out HN.out) (by show Value.int _ _ = _; congr 1), Nmu_lt k hlt rfl⟩
        · skip
          by_cases le3 : (k : Int) + 3 ≤ l.length
          · skip
            have F180 := hide (take_short (l := l) (x := [90, 48, 55, 48, 48, 48, 48]) (k := k) (n := 7) rfl (by omega) (by omega))
            have F183 := hide (take_short (l := l) (x := [90, 48, 55, 58, 48, 48, 58, 48, 48]) (k := k) (n := 9) rfl (by omega) (by omega))
            have F186 := hide (take_short (l := l) (x := [90, 48, 55, 48, 48]) (k := k) (n := 5) rfl (by omega) (by omega))
            have F189 := hide (take_short (l := l) (x := [90, 48, 55, 58, 48, 48]) (k := k) (n := 6) rfl (by omega) (by omega))
            by_cases h191 : List.take 3 (List.drop k l) = [90, 48, 55]
            · have b193 : (List.take 3 (List.drop k l) == [90, 48, 55]) = true := by rw [beq_iff_eq]; exact h191
              have F192 := hide h191
              clear h191
              have HS : Hid (Fs.step (List.drop k l) = some (0, 26, 3)) := (by show _ = _; rw [step_zed hlt HC.out, if_neg F180.out, if_neg F183.out, if_neg F186.out, if_neg F189.out, if_pos F192.out])
              go_wp2_with fail
              go_quiet (fail)
              go_wp2_with fail
              refine HR _ _ ?_
              go_ret3
              exact ⟨congrArg _ (nextV_of (Fs.next_at HS.out HN.out)), hq0.drewN _⟩
            · have b193 : (List.take 3 (List.drop k l) == [90, 48, 55]) = false := by rw [beq_eq_false_iff_ne]; exact h191
              have F192 := hide h191
              clear h191
              have HS : Hid (Fs.step (List.drop k l) = none) := (by show _ = _; rw [step_zed hlt HC.out, if_neg F180.out, if_neg F183.out, if_neg F186.out, if_neg F189.out, if_neg F192.out])
              go_wp2_with fail
              exact ⟨NI_mk hq0 rfl rfl rfl (k + 1) (by omega) (Fs.next_on hlt HS.out HN.out) (by show Value.int _ _ = _; congr 1), Nmu_lt k hlt rfl⟩
          · skip
            have F195 := hide (take_short (l := l) (x := [90, 48, 55, 48, 48, 48, 48]) (k := k) (n := 7) rfl (by omega) (by omega))
            have F198 := hide (take_short (l := l) (x := [90, 48, 55, 58, 48, 48, 58, 48, 48]) (k := k) (n := 9) rfl (by omega) (by omega))
            have F201 := hide (take_short (l := l) (x := [90, 48, 55, 48, 48]) (k := k) (n := 5) rfl (by omega) (by omega))
            have F204 := hide (take_short (l := l) (x := [90, 48, 55, 58, 48, 48]) (k := k) (n := 6) rfl (by omega) (by omega))
            have F207 := hide (take_short (l := l) (x := [90, 48, 55]) (k := k) (n := 3) rfl (by omega) (by omega))
            have HS : Hid (Fs.step (List.drop k l) = none) := (by show _ = _; rw [step_zed hlt HC.out, if_neg F195.out, if_neg F198.out, if_neg F201.out, if_neg F204.out, if_neg F207.out])
            go_wp2_with fail
            exact ⟨NI_mk hq0 rfl rfl rfl (k + 1) (by omega) (Fs.next_on hlt HS.out HN.out) (by show Value.int _ _ = _; congr 1), Nmu_lt k hlt rfl⟩


end Go.Proofs.YtgcjhakhepgjlaaDoor
