/-
  THE LAWS FnExactGMT, FnNanosecondsMark, FnTimeZoneFew: their walks.
-/
import Derived.Test.YthgncomlplnjoaaDoorWd
namespace Go.Proofs.YthgncomlplnjoaaDoor
open Go.RowKit
set_option linter.unusedVariables false
attribute [local go_sem] ByteArray.extract_mk get_mk ByteArray.toList_mk ByteArray.mk_append_mk take_drop_len

theorem gmtLen_nil : Fs.gmtLen [71, 77, 84] = 3 := by decide
theorem gmtLen_four : Fs.gmtLen [71, 77, 84, 45, 52] = 5 := by decide
theorem gmtLen_rest {l : List UInt8} (h : 0 < l.length) : Fs.gmtLen (71 :: 77 :: 84 :: l) = 3 + Fs.signedLen l := by
  simp [Fs.gmtLen]; intro h2; simp [h2] at h

set_option maxHeartbeats 1000000 in
theorem law_FnExactGMT (l : List UInt8) (hl : l.length ≤ 9223372036854775807) (w : World) (E : HLead w) :
    Calls Tryd.prog 4 #[.string ⟨l.toArray⟩] w fun e w' => e = .returned (.bool true) ∧ Qt w w' := by
  by_cases hz : (2147483647 : Int) < l.length
  · go_enter Tryd.func4, Tryd.ntmps4
    go_wp2_with fail
    go_ret
    exact ⟨rfl, Qt.refl _⟩
  by_cases hem : l = []
  · subst hem
    have HN := hide gmtLen_nil
    go_enter Tryd.func4, Tryd.ntmps4
    go_wp2_with fail
    refine (iGMT [71, 77, 84] (by simp) (by simp) _ E).mono ?_
    rw [HN.out]
    rintro e w2 ⟨rfl, hq⟩
    go_wp2_with fail
    refine (iGMT [71, 77, 84, 45, 52] (by simp) (by simp) _ (E.qt hq)).mono ?_
    rw [gmtLen_four]
    rintro e w3 ⟨rfl, hq3⟩
    go_wp2_with fail
    go_ret
    exact ⟨rfl, hq.trans hq3⟩
  · have hem' : l.isEmpty = false := by simpa using hem
    have h0 : 0 < l.length := List.length_pos_iff.2 hem
    have HN := hide (gmtLen_rest h0)
    have hs := Fs.signedLen_le l
    clear hem
    go_enter Tryd.func4, Tryd.ntmps4
    go_wp2_with fail
    refine (iSigned l h0 (by omega) _ E).mono ?_
    rintro e w2 ⟨rfl, hq⟩
    go_wp2_with fail
    refine (iGMT (71 :: 77 :: 84 :: l) (by simp; omega) (by simp) _ (E.qt hq)).mono ?_
    rw [HN.out]
    rintro e w3 ⟨rfl, hq3⟩
    go_wp2_with fail
    refine (iGMT [71, 77, 84, 45, 52] (by simp) (by simp) _ ((E.qt hq).qt hq3)).mono ?_
    rw [gmtLen_four]
    rintro e w4 ⟨rfl, hq4⟩
    go_wp2_with fail
    go_ret
    exact ⟨rfl, (hq.trans hq3).trans hq4⟩

theorem nanos_25 : Fs.nanos [44, 50, 53] 3 = some (250000000, false) := by decide
theorem nanos_mark {m : UInt8} {l : List UInt8} {n : Nat} (h1 : m.toNat ≠ 46) (h2 : m.toNat ≠ 44) : Fs.nanos (m :: l) n = none := by
  have : ([m][0]?.any Fs.comma) = false := by simp [Fs.comma, h1, h2]
  simp [Fs.nanos, Fs.comma, h1, h2]

set_option maxHeartbeats 1000000 in
theorem law_FnNanosecondsMark (m : UInt8) (l : List UInt8) (hl : l.length ≤ 9223372036854775807) (w : World) (E : ErrsN w) :
    Calls Tryd.prog 5 #[.int .u8 m.toNat, .string ⟨l.toArray⟩] w fun e w' => e = .returned (.bool true) ∧ Below w.heap.size w w' := by
  by_cases hz : (2147483647 : Int) < l.length
  · go_enter Tryd.func5, Tryd.ntmps5
    go_wp2_with fail
    go_ret
    exact ⟨rfl, Below.refl _ _⟩
  have HN := hide nanos_25
  go_enter Tryd.func5, Tryd.ntmps5
  go_wp2_with fail
  refine (iNanos_yes [44, 50, 53] 3 (by simp) (by simp) (by simp) _ E HN.out).mono ?_
  rintro e w2 ⟨rfl, hq⟩
  have E2 := E.qt hq
  have b0 := hq.below w.heap.size
  by_cases h1 : m.toNat = 46
  · have c1 : ((m.toNat : Int) == 46) = true := by rw [beq_iff_eq]; omega
    clear h1
    go_wp2_with fail
    go_ret
    exact ⟨rfl, b0⟩
  have c1 : ((m.toNat : Int) == 46) = false := by rw [beq_eq_false_iff_ne]; omega
  by_cases h2 : m.toNat = 44
  · have c2 : ((m.toNat : Int) == 44) = true := by rw [beq_iff_eq]; omega
    clear h1 h2
    go_wp2_with fail
    go_ret
    exact ⟨rfl, b0⟩
  have c2 : ((m.toNat : Int) == 44) = false := by rw [beq_eq_false_iff_ne]; omega
  by_cases hem : l = []
  · have c3 : l.isEmpty = true := by rw [hem]; rfl
    clear hem h1 h2
    go_wp2_with fail
    go_ret
    exact ⟨rfl, b0⟩
  have c3 : l.isEmpty = false := by simpa using hem
  have h40 : ¬ (1099511627776 : Int) < l.length := by omega
  clear hem
  have H1 := hide h1
  have H2 := hide h2
  clear h1 h2
  have kc := fun (w0 : World) (cap : Nat) => conv_one w0 (0, 0) m cap
  go_wp2_with fail
  refine (iNanos_no (m :: l) (l.length + 1) (by omega) (by simp) (by simp; omega) _ ?_ (nanos_mark H1.out H2.out)).mono ?_
  · exact E2.below ((Below.refl _ _).alloc (Nat.le_refl _) _)
  rintro e w3 ⟨rfl, hq3⟩
  go_wp2_with fail
  go_ret
  exact ⟨rfl, (b0.alloc (by rw [hq.size]; exact Nat.le_refl _) _).trans (hq3.below _)⟩

theorem uppers_app : ∀ (n : Nat) (l r : List UInt8), l.length < n → (∀ j (h : j < l.length), Fs.isUp l[j] = true) → (∀ c, r[0]? = some c → Fs.isUp c = false) → Fs.uppers n (l ++ r) = l.length
  | 0, l, r, h, _, _ => by omega
  | n + 1, [], r, _, _, hr => by
    rcases r with _ | ⟨c, t⟩
    · simp [Fs.uppers]
    · simp [Fs.uppers, hr c rfl]
  | n + 1, d :: l, r, h, hu, hr => by
    have h0 : Fs.isUp d = true := hu 0 (by simp)
    have := uppers_app n l r (by simpa using h) (fun j hj => hu (j + 1) (by simpa using hj)) hr
    simp [Fs.uppers, h0, this]
theorem tz_few_letters {l r : List UInt8} (h1 : 1 ≤ l.length) (h2 : l.length ≤ 2) (hu : ∀ j (h : j < l.length), Fs.isUp l[j] = true) (hr : ∀ c, r[0]? = some c → Fs.isUp c = false)
    (hr2 : ∀ c, r[0]? = some c → ¬ (97 ≤ c.toNat ∧ c.toNat ≤ 122)) : (Fs.tz (l ++ r)).2 = false := by
  have hU := uppers_app 6 l r (by omega) hu hr
  have hrl : (l ++ r)[l.length]? = r[0]? := by rw [List.getElem?_append_right (Nat.le_refl _)]; simp
  have hget : ∀ j (h : j < l.length), (l ++ r)[j]? = some l[j] := fun j h => by rw [List.getElem?_append_left h, List.getElem?_eq_getElem h]
  have hup := hget 0 (by omega)
  have hu0 := hu 0 (by omega)
  unfold Fs.tz
  split
  · rfl
  · rename_i h3
    rw [if_neg, if_neg, if_neg]
    · rw [hU]
      rcases (show l.length = 1 ∨ l.length = 2 by omega) with e | e <;> rw [e] <;> rfl
    · rintro (h | h)
      · rw [hup] at h; injection h with h; rw [h] at hu0; revert hu0; decide
      · rw [hup] at h; injection h with h; rw [h] at hu0; revert hu0; decide
    · intro h
      have hx : ∀ j, j < 3 → (l ++ r)[j]? = [71, 77, 84][j]? := fun j hj => by rw [← h, List.getElem?_take_of_lt hj]
      have := hx l.length (by omega)
      rw [hrl] at this
      rcases (show l.length = 1 ∨ l.length = 2 by omega) with e | e
      · rw [e] at this; have := hr 77 (by simpa using this); revert this; decide
      · rw [e] at this; have := hr 84 (by simpa using this); revert this; decide
    · rintro (h | h)
      · have hx : ∀ j, j < 4 → (l ++ r)[j]? = [67, 104, 83, 84][j]? := fun j hj => by rw [← h, List.getElem?_take_of_lt hj]
        rcases (show l.length = 1 ∨ l.length = 2 by omega) with e | e
        · have := hx l.length (by omega); rw [hrl, e] at this; exact hr2 104 (by simpa using this) (by decide)
        · have := hx 1 (by omega); rw [hget 1 (by omega)] at this
          have h4 := hu 1 (by omega)
          injection this with this; rw [this] at h4; revert h4; decide
      · have hx : ∀ j, j < 4 → (l ++ r)[j]? = [77, 101, 83, 84][j]? := fun j hj => by rw [← h, List.getElem?_take_of_lt hj]
        rcases (show l.length = 1 ∨ l.length = 2 by omega) with e | e
        · have := hx l.length (by omega); rw [hrl, e] at this; exact hr2 101 (by simpa using this) (by decide)
        · have := hx 1 (by omega); rw [hget 1 (by omega)] at this
          have h4 := hu 1 (by omega)
          injection this with this; rw [this] at h4; revert h4; decide

theorem tz_abc : Fs.tz [65, 66, 67] = (3, true) := by decide

set_option maxHeartbeats 1000000 in
theorem law_FnTimeZoneFew (l r : List UInt8) (hl : l.length ≤ 9223372036854775807) (hr : r.length ≤ 9223372036854775807) (w : World) (E : HLead w) :
    Calls Tryd.prog 6 #[.string ⟨l.toArray⟩, .string ⟨r.toArray⟩] w fun e w' => e = .returned (.bool true) ∧ Qt w w' := by
  by_cases hz : (2147483647 : Int) < l.length
  · go_enter Tryd.func6, Tryd.ntmps6
    go_wp2_with fail
    go_ret
    exact ⟨rfl, Qt.refl _⟩
  by_cases hz2 : (2147483647 : Int) < r.length
  · go_enter Tryd.func6, Tryd.ntmps6
    go_wp2_with fail
    go_ret
    exact ⟨rfl, Qt.refl _⟩
  have HN := hide tz_abc
  go_enter Tryd.func6, Tryd.ntmps6
  go_wp2_with fail
  refine (iTz [65, 66, 67] (by simp) _ E).mono ?_
  rw [HN.out]
  rintro e w2 ⟨rfl, hq⟩
  by_cases hl1 : (l.length : Int) < 1
  · go_wp2_with fail
    go_ret
    exact ⟨rfl, hq⟩
  by_cases hl2 : (2 : Int) < l.length
  · go_wp2_with fail
    go_ret
    exact ⟨rfl, hq⟩
  go_wp2_with fail
  go_loop [7] (fun i => ∃ k : Nat, k ≤ l.length ∧ (∀ j (h : j < l.length), j < k → Fs.isUp l[j] = true) ∧ i = .int .i64 k) (fun i => l.length - (intOf i).toNat)
  case atStart => exact ⟨0, by omega, fun j _ h => by omega, rfl⟩
  case round =>
    obtain ⟨k, hk, hup, rfl⟩ := hrel
    have HU := hide hup
    clear hup
    by_cases hlt : k < l.length
    · by_cases hu1 : (l[k].toNat : Int) < 65
      · go_wp2_with fail
        go_ret
        exact ⟨rfl, hq⟩
      by_cases hu2 : 90 < (l[k].toNat : Int)
      · go_wp2_with fail
        go_ret
        exact ⟨rfl, hq⟩
      go_wp2_with fail
      go_round
      case rel =>
        refine ⟨k + 1, by omega, fun j h hj => ?_, by go_num⟩
        by_cases e : j = k
        · subst e; simp [Fs.isUp]; omega
        · exact HU.out j h (by omega)
      case measure => simp [intOf]; omega
    · have HU2 : Hid (∀ j (h : j < l.length), Fs.isUp l[j] = true) := fun j h => HU.out j h (by omega)
      clear HU
      by_cases hr0 : r = []
      · subst hr0
        have HT : Hid ((Fs.tz l).2 = false) := by
          have := tz_few_letters (l := l) (r := []) (by omega) (by omega) HU2.out (by simp) (by simp)
          show _ = _
          rwa [List.append_nil] at this
        go_wp2_with fail
        refine (iTz l (by omega) _ (E.qt hq)).mono ?_
        generalize Fs.tz l = p at HT
        obtain ⟨p1, p2⟩ := p
        have HT := HT.out
        simp only at HT
        subst HT
        rintro e w3 ⟨rfl, hq3⟩
        go_wp2_with fail
        go_ret
        exact ⟨rfl, hq.trans hq3⟩
      · have hr1 : 0 < r.length := List.length_pos_iff.2 hr0
        have hr2 : (0 : Int) < r.length := by omega
        clear hr0
        by_cases hA : 65 ≤ (r[0].toNat : Int) ∧ (r[0].toNat : Int) ≤ 90
        · obtain ⟨hA1, hA2⟩ := hA
          go_wp2_with fail
          go_ret
          exact ⟨rfl, hq⟩
        by_cases hB : 97 ≤ (r[0].toNat : Int) ∧ (r[0].toNat : Int) ≤ 122
        · obtain ⟨hB1, hB2⟩ := hB
          have hA1 : 65 ≤ (r[0].toNat : Int) := by omega
          have hA2 : ¬ (r[0].toNat : Int) ≤ 90 := by omega
          clear hA
          go_wp2_with fail
          go_ret
          exact ⟨rfl, hq⟩
        have HT : Hid ((Fs.tz (l ++ r)).2 = false) := tz_few_letters (r := r) (by omega) (by omega) HU2.out (fun c h => by rw [List.getElem?_eq_getElem hr1] at h; injection h with h; subst h; simp [Fs.isUp]; omega) (fun c h => by rw [List.getElem?_eq_getElem hr1] at h; injection h with h; subst h; omega)
        have hc : (decide (65 ≤ (r[0].toNat : Int)) && decide ((r[0].toNat : Int) ≤ 90) || decide (97 ≤ (r[0].toNat : Int)) && decide ((r[0].toNat : Int) ≤ 122)) = false := by
          rw [Bool.eq_false_iff]; simp; omega
        rcases (show ((r[0].toNat : Int) < 65 ∨ (65 ≤ (r[0].toNat : Int) ∧ 90 < (r[0].toNat : Int) ∧ (r[0].toNat : Int) < 97) ∨ (65 ≤ (r[0].toNat : Int) ∧ 122 < (r[0].toNat : Int))) by omega) with hc1 | ⟨hc1, hc2, hc3⟩ | ⟨hc1, hc2⟩
        all_goals
          clear hA hB hc
          go_wp2_with fail
          refine (iTz (l ++ r) (by simp; omega) _ (E.qt hq)).mono ?_
          generalize Fs.tz (l ++ r) = p at HT
          obtain ⟨p1, p2⟩ := p
          have HT := HT.out
          simp only at HT
          subst HT
          rintro e w3 ⟨rfl, hq3⟩
          go_wp2_with fail
          go_ret
          exact ⟨rfl, hq.trans hq3⟩

end Go.Proofs.YthgncomlplnjoaaDoor
