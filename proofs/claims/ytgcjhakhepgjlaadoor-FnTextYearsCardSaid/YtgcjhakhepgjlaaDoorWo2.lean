/-
  WALKS, part o: the rounds of nextStdChunk's loop at the signs 49, 50, 95, 51, 52, 53, 80, 112 (printed by wip/py/gen_next2.py).
-/
import Derived.Test.YtgcjhakhepgjlaaDoorWo
namespace Go.Proofs.YtgcjhakhepgjlaaDoor
open Go.RowKit
set_option linter.unusedVariables false
set_option linter.unusedSimpArgs false
attribute [local go_sem] ByteArray.extract_mk get_mk ByteArray.toList_mk ByteArray.mk_append_mk take_drop_len

set_option maxRecDepth 100000 in
set_option maxHeartbeats 4000000 in
theorem round_c49 (l : List UInt8) (hl : l.length ≤ 140737488351000) (w w1 : World) (E1 : HStd w1) (hq0 : Qt w w1) (k : Nat) (hk : k ≤ l.length) (HN : Hid (Fs.next l = Fs.pre (l.take k) (Fs.next (l.drop k)))) (u : Nat → Value)
    (hlt : k < l.length) (hc : (l[k].toNat : Int) = 49) (Q0 : Exit → Act → World → Prop) (HR : NR l w Q0) :
    Code.wp Tryd.prog nscBody (Exit.then (fun a' w' => NI l w a' w' ∧ Nmu l a' < l.length - k) Q0) (nscF l k u) w1 := by
  conv => arg 2; whnf
  unfold nscF
  have hb := byte_lt l[k]
  have HC := hide hc
  by_cases hl1 : k + 1 < l.length
  · have hl2 : (k : Int) + 2 ≤ l.length := by omega
    by_cases hd : (l[k + 1].toNat : Int) = 53
    · have HG : Hid ((List.drop (k + 1) l)[0]? = some 53) := head_is (n := 53) (by omega) hl1 hd
      have HS : Hid (Fs.step (List.drop k l) = some (0, 1036, 2)) := (by show _ = _; rw [step_1 hlt HC.out, if_pos HG.out])
      go_wp2_with fail
      go_quiet (fail)
      go_wp2_with fail
      refine HR _ _ ?_
      go_ret3
      exact ⟨congrArg _ (nextV_of (Fs.next_at HS.out HN.out)), hq0.drewN _⟩
    · have nd : ((l[k + 1].toNat : Int) == 53) = false := by rw [beq_eq_false_iff_ne]; exact hd
      have HG : Hid (¬ (List.drop (k + 1) l)[0]? = some 53) := head_not (n := 53) (by omega) hl1 hd
      have HD := hide hd
      clear hd
      have HS : Hid (Fs.step (List.drop k l) = some (0, 259, 1)) := (by show _ = _; rw [step_1 hlt HC.out, if_neg HG.out])
      go_wp2_with fail
      go_quiet (fail)
      go_wp2_with fail
      refine HR _ _ ?_
      go_ret3
      exact ⟨congrArg _ (nextV_of (Fs.next_at HS.out HN.out)), hq0.drewN _⟩
  · have HG : Hid (¬ (List.drop (k + 1) l)[0]? = some 53) := head_gone (c := 53) hl1
    have hl2 : ¬ (k : Int) + 2 ≤ l.length := by omega
    have HS : Hid (Fs.step (List.drop k l) = some (0, 259, 1)) := (by show _ = _; rw [step_1 hlt HC.out, if_neg HG.out])
    go_wp2_with fail
    go_quiet (fail)
    go_wp2_with fail
    refine HR _ _ ?_
    go_ret3
    exact ⟨congrArg _ (nextV_of (Fs.next_at HS.out HN.out)), hq0.drewN _⟩

set_option maxRecDepth 100000 in
set_option maxHeartbeats 4000000 in
theorem round_c50 (l : List UInt8) (hl : l.length ≤ 140737488351000) (w w1 : World) (E1 : HStd w1) (hq0 : Qt w w1) (k : Nat) (hk : k ≤ l.length) (HN : Hid (Fs.next l = Fs.pre (l.take k) (Fs.next (l.drop k)))) (u : Nat → Value)
    (hlt : k < l.length) (hc : (l[k].toNat : Int) = 50) (Q0 : Exit → Act → World → Prop) (HR : NR l w Q0) :
    Code.wp Tryd.prog nscBody (Exit.then (fun a' w' => NI l w a' w' ∧ Nmu l a' < l.length - k) Q0) (nscF l k u) w1 := by
  conv => arg 2; whnf
  unfold nscF
  have hb := byte_lt l[k]
  have HC := hide hc
  by_cases h21 : List.take 4 (List.drop k l) = [50, 48, 48, 54]
  · have b23 : (List.take 4 (List.drop k l) == [50, 48, 48, 54]) = true := by rw [beq_iff_eq]; exact h21
    have le24 := take_long (k := k) (n := 4) rfl (by omega) h21
    have F22 := hide h21
    clear h21
    have HS : Hid (Fs.step (List.drop k l) = some (0, 275, 4)) := (by show _ = _; rw [step_2 hlt HC.out, if_pos F22.out])
    go_wp2_with fail
    go_quiet (fail)
    go_wp2_with fail
    refine HR _ _ ?_
    go_ret3
    exact ⟨congrArg _ (nextV_of (Fs.next_at HS.out HN.out)), hq0.drewN _⟩
  · have b23 : (List.take 4 (List.drop k l) == [50, 48, 48, 54]) = false := by rw [beq_eq_false_iff_ne]; exact h21
    have F22 := hide h21
    clear h21
    by_cases le24 : (k : Int) + 4 ≤ l.length
    · have HS : Hid (Fs.step (List.drop k l) = some (0, 263, 1)) := (by show _ = _; rw [step_2 hlt HC.out, if_neg F22.out])
      go_wp2_with fail
      go_quiet (fail)
      go_wp2_with fail
      refine HR _ _ ?_
      go_ret3
      exact ⟨congrArg _ (nextV_of (Fs.next_at HS.out HN.out)), hq0.drewN _⟩
    · have HS : Hid (Fs.step (List.drop k l) = some (0, 263, 1)) := (by show _ = _; rw [step_2 hlt HC.out, if_neg F22.out])
      go_wp2_with fail
      go_quiet (fail)
      go_wp2_with fail
      refine HR _ _ ?_
      go_ret3
      exact ⟨congrArg _ (nextV_of (Fs.next_at HS.out HN.out)), hq0.drewN _⟩

set_option maxRecDepth 100000 in
set_option maxHeartbeats 4000000 in
theorem round_c95 (l : List UInt8) (hl : l.length ≤ 140737488351000) (w w1 : World) (E1 : HStd w1) (hq0 : Qt w w1) (k : Nat) (hk : k ≤ l.length) (HN : Hid (Fs.next l = Fs.pre (l.take k) (Fs.next (l.drop k)))) (u : Nat → Value)
    (hlt : k < l.length) (hc : (l[k].toNat : Int) = 95) (Q0 : Exit → Act → World → Prop) (HR : NR l w Q0) :
    Code.wp Tryd.prog nscBody (Exit.then (fun a' w' => NI l w a' w' ∧ Nmu l a' < l.length - k) Q0) (nscF l k u) w1 := by
  conv => arg 2; whnf
  unfold nscF
  have hb := byte_lt l[k]
  have HC := hide hc
  by_cases hl1 : k + 1 < l.length
  · have hl2 : (k : Int) + 2 ≤ l.length := by omega
    by_cases hd : (l[k + 1].toNat : Int) = 50
    · have HG : Hid ((List.drop (k + 1) l)[0]? = some 50) := head_is (n := 50) (by omega) hl1 hd
      by_cases h25 : List.take 4 (List.drop (k + 1) l) = [50, 48, 48, 54]
      · have b27 : (List.take 4 (List.drop (k + 1) l) == [50, 48, 48, 54]) = true := by rw [beq_iff_eq]; exact h25
        have le28 := take_long (k := k + 1) (n := 4) rfl (by omega) h25
        have le28' : (k : Int) + 5 ≤ l.length := by omega
        have F26 := hide h25
        clear h25
        have HS : Hid (Fs.step (List.drop k l) = some (1, 275, 5)) := (by show _ = _; rw [step_us hlt HC.out, if_pos HG.out, if_pos F26.out])
        go_wp2_with fail
        go_quiet (fail)
        go_wp2_with fail
        refine HR _ _ ?_
        go_ret3
        exact ⟨congrArg _ (nextV_of (Fs.next_at HS.out HN.out)), hq0.drewN _⟩
      · have b27 : (List.take 4 (List.drop (k + 1) l) == [50, 48, 48, 54]) = false := by rw [beq_eq_false_iff_ne]; exact h25
        have F26 := hide h25
        clear h25
        by_cases le28 : (k : Int) + 5 ≤ l.length
        · have HS : Hid (Fs.step (List.drop k l) = some (0, 264, 2)) := (by show _ = _; rw [step_us hlt HC.out, if_pos HG.out, if_neg F26.out])
          go_wp2_with fail
          go_quiet (fail)
          go_wp2_with fail
          refine HR _ _ ?_
          go_ret3
          exact ⟨congrArg _ (nextV_of (Fs.next_at HS.out HN.out)), hq0.drewN _⟩
        · have HS : Hid (Fs.step (List.drop k l) = some (0, 264, 2)) := (by show _ = _; rw [step_us hlt HC.out, if_pos HG.out, if_neg F26.out])
          go_wp2_with fail
          go_quiet (fail)
          go_wp2_with fail
          refine HR _ _ ?_
          go_ret3
          exact ⟨congrArg _ (nextV_of (Fs.next_at HS.out HN.out)), hq0.drewN _⟩
    · have nd : ((l[k + 1].toNat : Int) == 50) = false := by rw [beq_eq_false_iff_ne]; exact hd
      have HG : Hid (¬ (List.drop (k + 1) l)[0]? = some 50) := head_not (n := 50) (by omega) hl1 hd
      have HD := hide hd
      clear hd
      by_cases hl3 : k + 2 < l.length
      · have hl4 : (k : Int) + 3 ≤ l.length := by omega
        by_cases hd2 : (l[k + 1].toNat : Int) = 95 ∧ (l[k + 2].toNat : Int) = 50
        · have HT : Hid (List.take 2 (List.drop (k + 1) l) = [95, 50]) := take_two (n := 95) (m := 50) (by omega) (by omega) hl3 hd2.1 hd2.2
          obtain ⟨hd3, hd4⟩ := hd2
          have HS : Hid (Fs.step (List.drop k l) = some (0, 522, 3)) := (by show _ = _; rw [step_us hlt HC.out, if_neg HG.out, if_pos HT.out])
          go_wp2_with fail
          go_quiet (fail)
          go_wp2_with fail
          refine HR _ _ ?_
          go_ret3
          exact ⟨congrArg _ (nextV_of (Fs.next_at HS.out HN.out)), hq0.drewN _⟩
        · have HT : Hid (¬ List.take 2 (List.drop (k + 1) l) = [95, 50]) := take_two_not (n := 95) (m := 50) (by omega) (by omega) hl3 hd2
          by_cases hd3 : (l[k + 1].toNat : Int) = 95
          · have hd4 : ¬ (l[k + 2].toNat : Int) = 50 := fun e => hd2 ⟨hd3, e⟩
            have nd4 : ((l[k + 2].toNat : Int) == 50) = false := by rw [beq_eq_false_iff_ne]; exact hd4
            clear hd2 hd4
            have HS : Hid (Fs.step (List.drop k l) = none) := (by show _ = _; rw [step_us hlt HC.out, if_neg HG.out, if_neg HT.out])
            go_wp2_with fail
            exact ⟨NI_mk hq0 rfl rfl rfl (k + 1) (by omega) (Fs.next_on hlt HS.out HN.out) (by show Value.int _ _ = _; congr 1), Nmu_lt k hlt rfl⟩
          · have nd3 : ((l[k + 1].toNat : Int) == 95) = false := by rw [beq_eq_false_iff_ne]; exact hd3
            clear hd2 hd3
            have HS : Hid (Fs.step (List.drop k l) = none) := (by show _ = _; rw [step_us hlt HC.out, if_neg HG.out, if_neg HT.out])
            go_wp2_with fail
            exact ⟨NI_mk hq0 rfl rfl rfl (k + 1) (by omega) (Fs.next_on hlt HS.out HN.out) (by show Value.int _ _ = _; congr 1), Nmu_lt k hlt rfl⟩
      · have hl4 : ¬ (k : Int) + 3 ≤ l.length := by omega
        have HT := hide (take_short (l := l) (x := [95, 50]) (k := k + 1) (n := 2) rfl (by omega) (by omega))
        have HS : Hid (Fs.step (List.drop k l) = none) := (by show _ = _; rw [step_us hlt HC.out, if_neg HG.out, if_neg HT.out])
        go_wp2_with fail
        exact ⟨NI_mk hq0 rfl rfl rfl (k + 1) (by omega) (Fs.next_on hlt HS.out HN.out) (by show Value.int _ _ = _; congr 1), Nmu_lt k hlt rfl⟩
  · have HG : Hid (¬ (List.drop (k + 1) l)[0]? = some 50) := head_gone (c := 50) hl1
    have hl2 : ¬ (k : Int) + 2 ≤ l.length := by omega
    have hl4 : ¬ (k : Int) + 3 ≤ l.length := by omega
    have HT := hide (take_short (l := l) (x := [95, 50]) (k := k + 1) (n := 2) rfl (by omega) (by omega))
    have HS : Hid (Fs.step (List.drop k l) = none) := (by show _ = _; rw [step_us hlt HC.out, if_neg HG.out, if_neg HT.out])
    go_wp2_with fail
    exact ⟨NI_mk hq0 rfl rfl rfl (k + 1) (by omega) (Fs.next_on hlt HS.out HN.out) (by show Value.int _ _ = _; congr 1), Nmu_lt k hlt rfl⟩

set_option maxRecDepth 100000 in
set_option maxHeartbeats 4000000 in
theorem round_c51 (l : List UInt8) (hl : l.length ≤ 140737488351000) (w w1 : World) (E1 : HStd w1) (hq0 : Qt w w1) (k : Nat) (hk : k ≤ l.length) (HN : Hid (Fs.next l = Fs.pre (l.take k) (Fs.next (l.drop k)))) (u : Nat → Value)
    (hlt : k < l.length) (hc : (l[k].toNat : Int) = 51) (Q0 : Exit → Act → World → Prop) (HR : NR l w Q0) :
    Code.wp Tryd.prog nscBody (Exit.then (fun a' w' => NI l w a' w' ∧ Nmu l a' < l.length - k) Q0) (nscF l k u) w1 := by
  conv => arg 2; whnf
  unfold nscF
  have hb := byte_lt l[k]
  have HC := hide hc
  have HS : Hid (Fs.step (List.drop k l) = some (0, 1037, 1)) := (by show _ = _; rw [step_51 hlt HC.out])
  go_wp2_with fail
  go_quiet (fail)
  go_wp2_with fail
  refine HR _ _ ?_
  go_ret3
  exact ⟨congrArg _ (nextV_of (Fs.next_at HS.out HN.out)), hq0.drewN _⟩

set_option maxRecDepth 100000 in
set_option maxHeartbeats 4000000 in
theorem round_c52 (l : List UInt8) (hl : l.length ≤ 140737488351000) (w w1 : World) (E1 : HStd w1) (hq0 : Qt w w1) (k : Nat) (hk : k ≤ l.length) (HN : Hid (Fs.next l = Fs.pre (l.take k) (Fs.next (l.drop k)))) (u : Nat → Value)
    (hlt : k < l.length) (hc : (l[k].toNat : Int) = 52) (Q0 : Exit → Act → World → Prop) (HR : NR l w Q0) :
    Code.wp Tryd.prog nscBody (Exit.then (fun a' w' => NI l w a' w' ∧ Nmu l a' < l.length - k) Q0) (nscF l k u) w1 := by
  conv => arg 2; whnf
  unfold nscF
  have hb := byte_lt l[k]
  have HC := hide hc
  have HS : Hid (Fs.step (List.drop k l) = some (0, 1039, 1)) := (by show _ = _; rw [step_52 hlt HC.out])
  go_wp2_with fail
  go_quiet (fail)
  go_wp2_with fail
  refine HR _ _ ?_
  go_ret3
  exact ⟨congrArg _ (nextV_of (Fs.next_at HS.out HN.out)), hq0.drewN _⟩

set_option maxRecDepth 100000 in
set_option maxHeartbeats 4000000 in
theorem round_c53 (l : List UInt8) (hl : l.length ≤ 140737488351000) (w w1 : World) (E1 : HStd w1) (hq0 : Qt w w1) (k : Nat) (hk : k ≤ l.length) (HN : Hid (Fs.next l = Fs.pre (l.take k) (Fs.next (l.drop k)))) (u : Nat → Value)
    (hlt : k < l.length) (hc : (l[k].toNat : Int) = 53) (Q0 : Exit → Act → World → Prop) (HR : NR l w Q0) :
    Code.wp Tryd.prog nscBody (Exit.then (fun a' w' => NI l w a' w' ∧ Nmu l a' < l.length - k) Q0) (nscF l k u) w1 := by
  conv => arg 2; whnf
  unfold nscF
  have hb := byte_lt l[k]
  have HC := hide hc
  have HS : Hid (Fs.step (List.drop k l) = some (0, 1041, 1)) := (by show _ = _; rw [step_53 hlt HC.out])
  go_wp2_with fail
  go_quiet (fail)
  go_wp2_with fail
  refine HR _ _ ?_
  go_ret3
  exact ⟨congrArg _ (nextV_of (Fs.next_at HS.out HN.out)), hq0.drewN _⟩

set_option maxRecDepth 100000 in
set_option maxHeartbeats 4000000 in
theorem round_c80 (l : List UInt8) (hl : l.length ≤ 140737488351000) (w w1 : World) (E1 : HStd w1) (hq0 : Qt w w1) (k : Nat) (hk : k ≤ l.length) (HN : Hid (Fs.next l = Fs.pre (l.take k) (Fs.next (l.drop k)))) (u : Nat → Value)
    (hlt : k < l.length) (hc : (l[k].toNat : Int) = 80) (Q0 : Exit → Act → World → Prop) (HR : NR l w Q0) :
    Code.wp Tryd.prog nscBody (Exit.then (fun a' w' => NI l w a' w' ∧ Nmu l a' < l.length - k) Q0) (nscF l k u) w1 := by
  conv => arg 2; whnf
  unfold nscF
  have hb := byte_lt l[k]
  have HC := hide hc
  by_cases hl1 : k + 1 < l.length
  · have hl2 : (k : Int) + 2 ≤ l.length := by omega
    by_cases hd : (l[k + 1].toNat : Int) = 77
    · have HG : Hid ((List.drop (k + 1) l)[0]? = some 77) := head_is (n := 77) (by omega) hl1 hd
      have HS : Hid (Fs.step (List.drop k l) = some (0, 1045, 2)) := (by show _ = _; rw [step_P hlt HC.out, if_pos HG.out])
      go_wp2_with fail
      go_quiet (fail)
      go_wp2_with fail
      refine HR _ _ ?_
      go_ret3
      exact ⟨congrArg _ (nextV_of (Fs.next_at HS.out HN.out)), hq0.drewN _⟩
    · have nd : ((l[k + 1].toNat : Int) == 77) = false := by rw [beq_eq_false_iff_ne]; exact hd
      have HG : Hid (¬ (List.drop (k + 1) l)[0]? = some 77) := head_not (n := 77) (by omega) hl1 hd
      have HD := hide hd
      clear hd
      have HS : Hid (Fs.step (List.drop k l) = none) := (by show _ = _; rw [step_P hlt HC.out, if_neg HG.out])
      go_wp2_with fail
      exact ⟨NI_mk hq0 rfl rfl rfl (k + 1) (by omega) (Fs.next_on hlt HS.out HN.out) (by show Value.int _ _ = _; congr 1), Nmu_lt k hlt rfl⟩
  · have HG : Hid (¬ (List.drop (k + 1) l)[0]? = some 77) := head_gone (c := 77) hl1
    have hl2 : ¬ (k : Int) + 2 ≤ l.length := by omega
    have HS : Hid (Fs.step (List.drop k l) = none) := (by show _ = _; rw [step_P hlt HC.out, if_neg HG.out])
    go_wp2_with fail
    exact ⟨NI_mk hq0 rfl rfl rfl (k + 1) (by omega) (Fs.next_on hlt HS.out HN.out) (by show Value.int _ _ = _; congr 1), Nmu_lt k hlt rfl⟩

set_option maxRecDepth 100000 in
set_option maxHeartbeats 4000000 in
theorem round_c112 (l : List UInt8) (hl : l.length ≤ 140737488351000) (w w1 : World) (E1 : HStd w1) (hq0 : Qt w w1) (k : Nat) (hk : k ≤ l.length) (HN : Hid (Fs.next l = Fs.pre (l.take k) (Fs.next (l.drop k)))) (u : Nat → Value)
    (hlt : k < l.length) (hc : (l[k].toNat : Int) = 112) (Q0 : Exit → Act → World → Prop) (HR : NR l w Q0) :
    Code.wp Tryd.prog nscBody (Exit.then (fun a' w' => NI l w a' w' ∧ Nmu l a' < l.length - k) Q0) (nscF l k u) w1 := by
  conv => arg 2; whnf
  unfold nscF
  have hb := byte_lt l[k]
  have HC := hide hc
  by_cases hl1 : k + 1 < l.length
  · have hl2 : (k : Int) + 2 ≤ l.length := by omega
    by_cases hd : (l[k + 1].toNat : Int) = 109
    · have HG : Hid ((List.drop (k + 1) l)[0]? = some 109) := head_is (n := 109) (by omega) hl1 hd
      have HS : Hid (Fs.step (List.drop k l) = some (0, 1046, 2)) := (by show _ = _; rw [step_p hlt HC.out, if_pos HG.out])
      go_wp2_with fail
      go_quiet (fail)
      go_wp2_with fail
      refine HR _ _ ?_
      go_ret3
      exact ⟨congrArg _ (nextV_of (Fs.next_at HS.out HN.out)), hq0.drewN _⟩
    · have nd : ((l[k + 1].toNat : Int) == 109) = false := by rw [beq_eq_false_iff_ne]; exact hd
      have HG : Hid (¬ (List.drop (k + 1) l)[0]? = some 109) := head_not (n := 109) (by omega) hl1 hd
      have HD := hide hd
      clear hd
      have HS : Hid (Fs.step (List.drop k l) = none) := (by show _ = _; rw [step_p hlt HC.out, if_neg HG.out])
      go_wp2_with fail
      exact ⟨NI_mk hq0 rfl rfl rfl (k + 1) (by omega) (Fs.next_on hlt HS.out HN.out) (by show Value.int _ _ = _; congr 1), Nmu_lt k hlt rfl⟩
  · have HG : Hid (¬ (List.drop (k + 1) l)[0]? = some 109) := head_gone (c := 109) hl1
    have hl2 : ¬ (k : Int) + 2 ≤ l.length := by omega
    have HS : Hid (Fs.step (List.drop k l) = none) := (by show _ = _; rw [step_p hlt HC.out, if_neg HG.out])
    go_wp2_with fail
    exact ⟨NI_mk hq0 rfl rfl rfl (k + 1) (by omega) (Fs.next_on hlt HS.out HN.out) (by show Value.int _ _ = _; congr 1), Nmu_lt k hlt rfl⟩


end Go.Proofs.YtgcjhakhepgjlaaDoor
