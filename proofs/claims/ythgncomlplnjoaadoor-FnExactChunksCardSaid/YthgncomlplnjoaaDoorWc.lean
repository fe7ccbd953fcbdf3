/-
  WALKS, part c: zone abbreviations.
-/
import Derived.Test.YthgncomlplnjoaaDoorWb
namespace Go.Proofs.YthgncomlplnjoaaDoor
open Go.RowKit
set_option linter.unusedVariables false
attribute [local go_sem] ByteArray.extract_mk get_mk ByteArray.toList_mk ByteArray.mk_append_mk take_drop_len

def tzV (p : Nat × Bool) : Value := .tuple #[.int .i64 p.1, .bool p.2]
theorem tzV_of {p : Nat × Bool} {n : Nat} {b : Bool} (h : p = (n, b)) : Value.tuple #[.int .i64 n, .bool b] = tzV p := by subst h; rfl
theorem tz_few {l : List UInt8} (h : l.length < 3) : Fs.tz l = (0, false) := by simp [Fs.tz, h]
theorem tz_chst {l : List UInt8} (h3 : 3 ≤ l.length) (h : l.take 4 = [67, 104, 83, 84] ∨ l.take 4 = [77, 101, 83, 84]) : Fs.tz l = (4, true) := by
  unfold Fs.tz; rw [if_neg (by omega), if_pos h]
theorem tz_gmt {l : List UInt8} (h3 : 3 ≤ l.length) (h : ¬ (l.take 4 = [67, 104, 83, 84] ∨ l.take 4 = [77, 101, 83, 84])) (hg : l.take 3 = [71, 77, 84]) : Fs.tz l = (Fs.gmtLen l, true) := by
  unfold Fs.tz; rw [if_neg (by omega), if_neg h, if_pos hg]
theorem tz_sign {l : List UInt8} (h3 : 3 ≤ l.length) (h : ¬ (l.take 4 = [67, 104, 83, 84] ∨ l.take 4 = [77, 101, 83, 84])) (hg : ¬ l.take 3 = [71, 77, 84]) (hs : l[0]? = some 43 ∨ l[0]? = some 45) : Fs.tz l = (Fs.signedLen l, decide (0 < Fs.signedLen l)) := by
  unfold Fs.tz; rw [if_neg (by omega), if_neg h, if_neg hg, if_pos hs]
theorem tz_up {l : List UInt8} (h3 : 3 ≤ l.length) (h : ¬ (l.take 4 = [67, 104, 83, 84] ∨ l.take 4 = [77, 101, 83, 84])) (hg : ¬ l.take 3 = [71, 77, 84]) (hs : ¬ (l[0]? = some 43 ∨ l[0]? = some 45)) : Fs.tz l = Fs.tzU l (Fs.uppers 6 l) := by
  unfold Fs.tz; rw [if_neg (by omega), if_neg h, if_neg hg, if_neg hs]

theorem signed_l (l : List UInt8) (h0 : 0 < l.length) (hl : l.length ≤ 140737488351230) (w : World) (E : HLead w) :
    Calls Tryd.prog 33 #[.string ⟨l.toArray⟩] w fun e w' => e = .returned (.int .i64 (Fs.signedLen l)) ∧ Qt w w' := by
  rcases l with _ | ⟨c, t⟩
  · simp at h0
  · exact signed_any c t (by simp at hl; omega) w E

theorem upper_step {l : List UInt8} {k : Nat} (hk : k < l.length) (h6 : k < 6) (h : k + Fs.uppers (6 - k) (l.drop k) = Fs.uppers 6 l) (hu : Fs.isUp (l[k]'hk) = true) :
    (k + 1) + Fs.uppers (6 - (k + 1)) (l.drop (k + 1)) = Fs.uppers 6 l := by
  rw [← h, List.drop_eq_getElem_cons hk]
  obtain ⟨m, hm⟩ : ∃ m, 6 - k = m + 1 := ⟨5 - k, by omega⟩
  have h5 : 6 - (k + 1) = m := by omega
  rw [hm, h5]
  simp only [Fs.uppers, hu, if_true]
  omega
theorem upper_stop {l : List UInt8} {k : Nat} (hk : k < l.length) (h : k + Fs.uppers (6 - k) (l.drop k) = Fs.uppers 6 l) (hu : Fs.isUp (l[k]'hk) = false) : Fs.uppers 6 l = k := by
  rw [← h, List.drop_eq_getElem_cons hk]
  rcases (6 - k) with _ | m <;> simp [Fs.uppers, hu]
theorem upper_six {l : List UInt8} (h : 6 + Fs.uppers (6 - 6) (l.drop 6) = Fs.uppers 6 l) : Fs.uppers 6 l = 6 := by
  rw [← h]; simp [Fs.uppers]
theorem upper_end {l : List UInt8} (h : l.length + Fs.uppers (6 - l.length) (l.drop l.length) = Fs.uppers 6 l) : Fs.uppers 6 l = l.length := by
  rw [← h, List.drop_length]
  rcases (6 - l.length) with _ | m <;> simp [Fs.uppers]

/-- THE SWITCH BEHIND THE LOOP, once for each way out of it. -/
theorem tzU_three (l : List UInt8) : Fs.tzU l 3 = (3, true) := rfl
theorem tzU_few (l : List UInt8) (k : Nat) (h : k ≤ 2 ∨ 6 ≤ k) : Fs.tzU l k = (0, false) := by
  unfold Fs.tzU; split <;> first | omega | rfl
theorem tzU_four_yes (l : List UInt8) (h : 3 < l.length) (hc : (l[3].toNat : Int) = 84 ∨ l.take 4 = [87, 73, 84, 65]) : Fs.tzU l 4 = (4, true) := by
  have : l[3]? = some 84 ∨ l.take 4 = [87, 73, 84, 65] := by
    rcases hc with hc | hc
    · left; rw [List.getElem?_eq_getElem h]; congr 1; apply UInt8.toNat_inj.1; show _ = 84; omega
    · exact .inr hc
  simp only [Fs.tzU, if_pos this]
theorem tzU_four_no (l : List UInt8) (h : 3 < l.length) (hc : ¬ (l[3].toNat : Int) = 84) (hd : ¬ l.take 4 = [87, 73, 84, 65]) : Fs.tzU l 4 = (0, false) := by
  have : ¬ (l[3]? = some 84 ∨ l.take 4 = [87, 73, 84, 65]) := by
    rintro (h1 | h1)
    · rw [List.getElem?_eq_getElem h] at h1; injection h1 with h1; exact hc (by rw [h1]; rfl)
    · exact hd h1
  simp only [Fs.tzU, if_neg this]
theorem tzU_five_yes (l : List UInt8) (h : 4 < l.length) (hc : (l[4].toNat : Int) = 84) : Fs.tzU l 5 = (5, true) := by
  have : l[4]? = some 84 := by
    rw [List.getElem?_eq_getElem h]; congr 1; apply UInt8.toNat_inj.1; show _ = 84; omega
  simp only [Fs.tzU, if_pos this]
theorem tzU_five_no (l : List UInt8) (h : 4 < l.length) (hc : ¬ (l[4].toNat : Int) = 84) : Fs.tzU l 5 = (0, false) := by
  have : ¬ (l[4]? = some 84) := by
    intro h1; rw [List.getElem?_eq_getElem h] at h1; injection h1 with h1; exact hc (by rw [h1]; rfl)
  simp only [Fs.tzU, if_neg this]

set_option maxHeartbeats 1000000 in
theorem tz_any (l : List UInt8) (hl : l.length ≤ 140737488351230) (w : World) (E : HLead w) :
    Calls Tryd.prog 36 #[.string ⟨l.toArray⟩] w fun e w' => e = .returned (tzV (Fs.tz l)) ∧ Qt w w' := by
  by_cases h3 : l.length < 3
  · have HR := hide (tz_few h3)
    go_enter Tryd.func36, Tryd.ntmps36
    go_wp2_with fail
    go_ret2
    exact ⟨congrArg _ (tzV_of HR.out), Qt.refl _⟩
  have h3' : 3 ≤ l.length := by omega
  by_cases hch : l.take 4 = [67, 104, 83, 84] ∨ l.take 4 = [77, 101, 83, 84]
  · have HR := hide (tz_chst h3' hch)
    have h4 : 4 ≤ l.length := by
      have : (l.take 4).length = 4 := by rcases hch with h | h <;> rw [h] <;> rfl
      simp at this; omega
    have hb : (l.take 4 == [67, 104, 83, 84]) = true ∨ ((l.take 4 == [67, 104, 83, 84]) = false ∧ (l.take 4 == [77, 101, 83, 84]) = true) := by
      rcases hch with h | h <;> rw [h] <;> simp
    clear hch
    rcases hb with b1 | ⟨b1, b2⟩
    all_goals
      go_enter Tryd.func36, Tryd.ntmps36
      go_wp2_with fail
      go_ret2
      exact ⟨congrArg _ (tzV_of HR.out), Qt.refl _⟩
  have c1 : (l.take 4 == [67, 104, 83, 84]) = false := by rw [beq_eq_false_iff_ne]; exact fun h => hch (.inl h)
  have c2 : (l.take 4 == [77, 101, 83, 84]) = false := by rw [beq_eq_false_iff_ne]; exact fun h => hch (.inr h)
  have HC := hide hch
  clear hch
  by_cases hg : l.take 3 = [71, 77, 84]
  · have HR := hide (tz_gmt h3' HC.out hg)
    have g1 : (l.take 3 == [71, 77, 84]) = true := by rw [beq_iff_eq]; exact hg
    clear hg
    by_cases h4 : 4 ≤ l.length
    all_goals
      go_enter Tryd.func36, Tryd.ntmps36
      go_wp2_with fail
      refine (gmt_any l hl h3' _ E).mono ?_
      rintro e w2 ⟨rfl, hq⟩
      go_wp2_with fail
      go_ret2
      exact ⟨congrArg _ (tzV_of HR.out), hq⟩
  have g1 : (l.take 3 == [71, 77, 84]) = false := by rw [beq_eq_false_iff_ne]; exact hg
  have HG := hide hg
  clear hg
  by_cases hs : l[0]? = some 43 ∨ l[0]? = some 45
  · have HR := hide (tz_sign h3' HC.out HG.out hs)
    have hb : ((l[0].toNat : Int) == 43) = true ∨ (((l[0].toNat : Int) == 43) = false ∧ ((l[0].toNat : Int) == 45) = true) := by
      rw [List.getElem?_eq_getElem (by omega)] at hs
      rcases hs with h | h <;> (injection h with h; rw [h]; decide)
    clear hs
    by_cases h4 : 4 ≤ l.length
    all_goals
      rcases hb with b1 | ⟨b1, b2⟩
      all_goals
        go_enter Tryd.func36, Tryd.ntmps36
        go_wp2_with fail
        refine (signed_l l (by omega) hl _ E).mono ?_
        rintro e w2 ⟨rfl, hq⟩
        go_wp2_with fail
        go_ret2
        exact ⟨congrArg _ (tzV_of HR.out), hq⟩
  · have HR := hide (tz_up h3' HC.out HG.out hs)
    have b1 : ((l[0].toNat : Int) == 43) = false ∧ ((l[0].toNat : Int) == 45) = false := by
      rw [List.getElem?_eq_getElem (by omega)] at hs
      simp only [not_or] at hs
      constructor
      · rw [beq_eq_false_iff_ne]; intro h; apply hs.1; congr 1; apply UInt8.toNat_inj.1; show _ = 43; omega
      · rw [beq_eq_false_iff_ne]; intro h; apply hs.2; congr 1; apply UInt8.toNat_inj.1; show _ = 45; omega
    clear hs
    obtain ⟨b1, b2⟩ := b1
    by_cases h4 : 4 ≤ l.length
    · go_enter Tryd.func36, Tryd.ntmps36
      go_wp2_with fail
      go_loop [5] (fun n => ∃ k : Nat, k ≤ 6 ∧ k ≤ l.length ∧ k + Fs.uppers (6 - k) (l.drop k) = Fs.uppers 6 l ∧ n = .int .i64 k) (fun n => 6 - (intOf n).toNat)
      case atStart => exact ⟨0, by omega, by omega, by simp, rfl⟩
      case round =>
        obtain ⟨k, hk, hkl, heq, rfl⟩ := hrel
        by_cases hk6 : k < 6
        · by_cases hlt : k < l.length
          · by_cases hup : 65 ≤ (l[k].toNat : Int) ∧ (l[k].toNat : Int) ≤ 90
            · obtain ⟨hup1, hup2⟩ := hup
              have HU := hide (upper_step hlt hk6 heq (by simp [Fs.isUp]; omega))
              clear heq
              go_wp2_with fail
              go_round
              case rel => exact ⟨k + 1, by omega, by omega, HU.out, by go_num⟩
              case measure => simp [intOf]; omega
            · have HU : Hid (Fs.tz l = Fs.tzU l k) := by
                rw [← upper_stop hlt heq (by simp [Fs.isUp]; omega)]; exact HR.out
              clear heq
              have hk' : k = 0 ∨ k = 1 ∨ k = 2 ∨ k = 3 ∨ k = 4 ∨ k = 5 := by omega
              have hup' : (l[k].toNat : Int) < 65 ∨ (¬ (l[k].toNat : Int) < 65 ∧ 90 < (l[k].toNat : Int)) := by omega
              clear hup
              rcases hup' with hup1 | ⟨hup1, hup2⟩
              all_goals
                rcases hk' with rfl | rfl | rfl | rfl | rfl | rfl
                · go_wp2_with fail
                  · exfalso; subst l; simp at h3'
                  · go_ret2
                    exact ⟨congrArg _ (tzV_of (by rw [HU.out]; exact tzU_few _ _ (by omega))), Qt.refl _⟩
                · go_wp2_with fail
                  go_ret2
                  exact ⟨congrArg _ (tzV_of (by rw [HU.out]; exact tzU_few _ _ (by omega))), Qt.refl _⟩
                · go_wp2_with fail
                  go_ret2
                  exact ⟨congrArg _ (tzV_of (by rw [HU.out]; exact tzU_few _ _ (by omega))), Qt.refl _⟩
                · go_wp2_with fail
                  go_ret2
                  exact ⟨congrArg _ (tzV_of (by rw [HU.out]; exact tzU_three _)), Qt.refl _⟩
                · have h34 : 3 < l.length := by omega
                  by_cases hT : (l[3].toNat : Int) = 84
                  · have d1 : ((l[3].toNat : Int) == 84) = true := by rw [beq_iff_eq]; exact hT
                    have HF := hide (tzU_four_yes l h34 (.inl hT))
                    clear hT
                    go_wp2_with fail
                    go_ret2
                    exact ⟨congrArg _ (tzV_of (by rw [HU.out]; exact HF.out)), Qt.refl _⟩
                  · have d1 : ((l[3].toNat : Int) == 84) = false := by rw [beq_eq_false_iff_ne]; exact hT
                    by_cases hW : l.take 4 = [87, 73, 84, 65]
                    · have d2 : (l.take 4 == [87, 73, 84, 65]) = true := by rw [beq_iff_eq]; exact hW
                      have HF := hide (tzU_four_yes l h34 (.inr hW))
                      clear hT hW
                      go_wp2_with fail
                      go_ret2
                      exact ⟨congrArg _ (tzV_of (by rw [HU.out]; exact HF.out)), Qt.refl _⟩
                    · have d2 : (l.take 4 == [87, 73, 84, 65]) = false := by rw [beq_eq_false_iff_ne]; exact hW
                      have HF := hide (tzU_four_no l h34 hT hW)
                      clear hT hW
                      go_wp2_with fail
                      go_ret2
                      exact ⟨congrArg _ (tzV_of (by rw [HU.out]; exact HF.out)), Qt.refl _⟩
                · have h45 : 4 < l.length := by omega
                  by_cases hT : (l[4].toNat : Int) = 84
                  · have d1 : ((l[4].toNat : Int) == 84) = true := by rw [beq_iff_eq]; exact hT
                    have HF := hide (tzU_five_yes l h45 hT)
                    clear hT
                    go_wp2_with fail
                    go_ret2
                    exact ⟨congrArg _ (tzV_of (by rw [HU.out]; exact HF.out)), Qt.refl _⟩
                  · have d1 : ((l[4].toNat : Int) == 84) = false := by rw [beq_eq_false_iff_ne]; exact hT
                    have HF := hide (tzU_five_no l h45 hT)
                    clear hT
                    go_wp2_with fail
                    go_ret2
                    exact ⟨congrArg _ (tzV_of (by rw [HU.out]; exact HF.out)), Qt.refl _⟩
          · obtain ⟨hge⟩ : Nonempty (l.length ≤ k) := ⟨by omega⟩
            have HU : Hid (Fs.tz l = Fs.tzU l k) := by
              have hkk : k = l.length := by omega
              subst hkk
              have := upper_end heq
              show _ = _
              rw [HR.out, this]
            clear heq hlt
            rcases (show k = 4 ∨ k = 5 by omega) with rfl | rfl
            · have h34 : 3 < l.length := by omega
              by_cases hT : (l[3].toNat : Int) = 84
              · have d1 : ((l[3].toNat : Int) == 84) = true := by rw [beq_iff_eq]; exact hT
                have HF := hide (tzU_four_yes l h34 (.inl hT))
                clear hT
                go_wp2_with fail
                go_ret2
                exact ⟨congrArg _ (tzV_of (by rw [HU.out]; exact HF.out)), Qt.refl _⟩
              · have d1 : ((l[3].toNat : Int) == 84) = false := by rw [beq_eq_false_iff_ne]; exact hT
                by_cases hW : l.take 4 = [87, 73, 84, 65]
                · have d2 : (l.take 4 == [87, 73, 84, 65]) = true := by rw [beq_iff_eq]; exact hW
                  have HF := hide (tzU_four_yes l h34 (.inr hW))
                  clear hT hW
                  go_wp2_with fail
                  go_ret2
                  exact ⟨congrArg _ (tzV_of (by rw [HU.out]; exact HF.out)), Qt.refl _⟩
                · have d2 : (l.take 4 == [87, 73, 84, 65]) = false := by rw [beq_eq_false_iff_ne]; exact hW
                  have HF := hide (tzU_four_no l h34 hT hW)
                  clear hT hW
                  go_wp2_with fail
                  go_ret2
                  exact ⟨congrArg _ (tzV_of (by rw [HU.out]; exact HF.out)), Qt.refl _⟩
            · have h45 : 4 < l.length := by omega
              by_cases hT : (l[4].toNat : Int) = 84
              · have d1 : ((l[4].toNat : Int) == 84) = true := by rw [beq_iff_eq]; exact hT
                have HF := hide (tzU_five_yes l h45 hT)
                clear hT
                go_wp2_with fail
                go_ret2
                exact ⟨congrArg _ (tzV_of (by rw [HU.out]; exact HF.out)), Qt.refl _⟩
              · have d1 : ((l[4].toNat : Int) == 84) = false := by rw [beq_eq_false_iff_ne]; exact hT
                have HF := hide (tzU_five_no l h45 hT)
                clear hT
                go_wp2_with fail
                go_ret2
                exact ⟨congrArg _ (tzV_of (by rw [HU.out]; exact HF.out)), Qt.refl _⟩
        · obtain rfl : k = 6 := by omega
          have HU : Hid (Fs.tz l = Fs.tzU l 6) := by
            rw [← upper_six heq]; exact HR.out
          clear heq
          go_wp2_with fail
          go_ret2
          exact ⟨congrArg _ (tzV_of (by rw [HU.out]; exact tzU_few _ _ (by omega))), Qt.refl _⟩
    · go_enter Tryd.func36, Tryd.ntmps36
      go_wp2_with fail
      go_loop [5] (fun n => ∃ k : Nat, k ≤ 6 ∧ k ≤ l.length ∧ k + Fs.uppers (6 - k) (l.drop k) = Fs.uppers 6 l ∧ n = .int .i64 k) (fun n => 6 - (intOf n).toNat)
      case atStart => exact ⟨0, by omega, by omega, by simp, rfl⟩
      case round =>
        obtain ⟨k, hk, hkl, heq, rfl⟩ := hrel
        by_cases hk6 : k < 6
        · by_cases hlt : k < l.length
          · by_cases hup : 65 ≤ (l[k].toNat : Int) ∧ (l[k].toNat : Int) ≤ 90
            · obtain ⟨hup1, hup2⟩ := hup
              have HU := hide (upper_step hlt hk6 heq (by simp [Fs.isUp]; omega))
              clear heq
              go_wp2_with fail
              go_round
              case rel => exact ⟨k + 1, by omega, by omega, HU.out, by go_num⟩
              case measure => simp [intOf]; omega
            · have HU : Hid (Fs.tz l = Fs.tzU l k) := by
                rw [← upper_stop hlt heq (by simp [Fs.isUp]; omega)]; exact HR.out
              clear heq
              have hk' : k = 0 ∨ k = 1 ∨ k = 2 := by omega
              have hup' : (l[k].toNat : Int) < 65 ∨ (¬ (l[k].toNat : Int) < 65 ∧ 90 < (l[k].toNat : Int)) := by omega
              clear hup
              rcases hup' with hup1 | ⟨hup1, hup2⟩
              all_goals
                rcases hk' with rfl | rfl | rfl
                · go_wp2_with fail
                  · exfalso; subst l; simp at h3'
                  · go_ret2
                    exact ⟨congrArg _ (tzV_of (by rw [HU.out]; exact tzU_few _ _ (by omega))), Qt.refl _⟩
                · go_wp2_with fail
                  go_ret2
                  exact ⟨congrArg _ (tzV_of (by rw [HU.out]; exact tzU_few _ _ (by omega))), Qt.refl _⟩
                · go_wp2_with fail
                  go_ret2
                  exact ⟨congrArg _ (tzV_of (by rw [HU.out]; exact tzU_few _ _ (by omega))), Qt.refl _⟩
          · obtain ⟨hge⟩ : Nonempty (l.length ≤ k) := ⟨by omega⟩
            have HU : Hid (Fs.tz l = Fs.tzU l k) := by
              have hkk : k = l.length := by omega
              subst hkk
              have := upper_end heq
              show _ = _
              rw [HR.out, this]
            clear heq hlt
            obtain rfl : k = 3 := by omega
            go_wp2_with fail
            go_ret2
            exact ⟨congrArg _ (tzV_of (by rw [HU.out]; exact tzU_three _)), Qt.refl _⟩
        · exfalso; omega

end Go.Proofs.YthgncomlplnjoaaDoor
