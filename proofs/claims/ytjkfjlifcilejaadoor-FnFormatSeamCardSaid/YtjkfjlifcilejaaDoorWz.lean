/-
  WALKS, part z: PiecesOk (printed by wip/py/gen_pieces.py).
-/
import Derived.Test.YtjkfjlifcilejaaDoorWy
namespace Go.Proofs.YtjkfjlifcilejaaDoor
open Go.RowKit
set_option linter.unusedVariables false
attribute [local go_sem] ByteArray.extract_mk get_mk ByteArray.toList_mk ByteArray.mk_append_mk take_drop_len

/-- the piece ahead of the k-th -/
def prevOf (ps : List Fs.Piece) (k : Nat) : Option Fs.Piece := if k = 0 then none else ps[k - 1]?
theorem allFrom_step {ps : List Fs.Piece} {k : Nat} {p : Fs.Piece} (h : ps.drop k = p :: ps.drop (k + 1)) {X : Bool} (hx : X = Fs.allFrom (prevOf ps k) (ps.drop k)) : X = (Fs.stepOk (prevOf ps k) p && Fs.allFrom (prevOf ps (k + 1)) (ps.drop (k + 1))) := by
  have hk : k < ps.length := by
    by_cases hk : k < ps.length
    · exact hk
    · rw [List.drop_of_length_le (by omega)] at h; cases h
  have hp : ps[k] = p := by
    rw [List.drop_eq_getElem_cons hk] at h
    exact (List.cons.inj h).1
  have hpr : prevOf ps (k + 1) = some p := by simp [prevOf, hk, hp]
  rw [hx, h, hpr, Fs.allFrom]
theorem fractions_snoc {ps : List Fs.Piece} {k : Nat} {p : Fs.Piece} (h : ps.drop k = p :: ps.drop (k + 1)) : Fs.fractions (ps.take (k + 1)) = Fs.fractions (ps.take k) + if Fs.isFraction p.kind then 1 else 0 := by
  have hk : k < ps.length := by
    by_cases hk : k < ps.length
    · exact hk
    · rw [List.drop_of_length_le (by omega)] at h; cases h
  have hp : ps[k] = p := by
    rw [List.drop_eq_getElem_cons hk] at h
    exact (List.cons.inj h).1
  rw [List.take_succ_eq_append_getElem hk, hp]
  cases hf : Fs.isFraction p.kind <;> simp [Fs.fractions, hf]
theorem fractions_le (ps : List Fs.Piece) : Fs.fractions ps ≤ ps.length := List.length_filter_le _ _

/-- the round's world and cells -/
structure PI (w : World) (ps : List Fs.Piece) (k : Nat) (wr : World) : Prop where
  bel : Below w.heap.size w wr
  all : Fs.allFrom none ps = Fs.allFrom (prevOf ps k) (ps.drop k)
  le : k ≤ ps.length

set_option maxRecDepth 100000 in
set_option maxHeartbeats 8000000 in
theorem PiecesOk_any (ao : Option Addr) (cap : Nat) (ps : List Fs.Piece) (w : World) (H : PC w ao ps) (hlen : ps.length ≤ 2147483647) (hfit : ∀ p ∈ ps, p.text.length ≤ 2147483647) : Calls Tryd.prog 22 #[.slice ao ps.length cap] w fun e w' => e = .returned (.bool (Fs.piecesOk ps)) ∧ Below w.heap.size w w' := by
  have HFIT := hide hfit
  clear hfit
  go_enter Tryd.func22, Tryd.ntmps22
  go_wp2_with fail
  go_loopw [3, 4] (fun s i wr => ∃ k : Nat, k ≤ ps.length ∧ i = .int .i64 k ∧ s = .int .i64 (Fs.fractions (ps.take k)) ∧ Hid (PI w ps k wr))
    (fun _ i _ => ps.length - (intOf i).toNat)
  case atStart => exact ⟨0, Nat.zero_le _, rfl, rfl, ⟨Below.refl _ _, by simp [prevOf], Nat.zero_le _⟩⟩
  case round =>
    obtain ⟨k, hk, rfl, rfl, hPI⟩ := hrel
    have hfl := fractions_le (ps.take k)
    rw [List.length_take] at hfl
    by_cases hlt : k < ps.length
    · obtain ⟨b, off, rfl, hc⟩ : ∃ b off, ao = some ⟨b, off, none⟩ ∧ ∀ k (h : k < ps.length), PCell w b (off + k * 4) ps[k] := by
        rcases H with h | h
        · rw [h] at hlt; exact absurd hlt (by simp)
        · exact h
      have hPC := hide (hc k hlt)
      have HFk := HFIT.out ps[k] (List.getElem_mem hlt)
      have HQ : Hid (∀ j (e : k = j + 1), PCell w b (off + j * 4) (ps[j]'(by omega)) ∧ prevOf ps k = some (ps[j]'(by omega))) := by
        intro j e
        subst e
        exact ⟨hc j (by omega), by simp [prevOf, show j < ps.length by omega]⟩
      obtain ⟨⟨K, T, N, C⟩, hp⟩ : ∃ p, ps[k] = p := ⟨_, rfl⟩
      have HD : Hid (ps.drop k = ⟨K, T, N, C⟩ :: ps.drop (k + 1)) := by show _ = _; rw [drop_get hlt, hp]
      rw [hp] at hPC HFk
      simp only at HFk
      have HF := hide (fractions_snoc HD.out)
      have HA := hide (allFrom_step HD.out hPI.out.all)
      have hb := hPI.out.bel
      obtain ⟨c0, c1, c2, c3⟩ := hPC.out.below hb
      simp only at c0 c1 c2 c3
      clear hp hc H hPI
      have hpk := pieceOk_any ⟨K, T, N, C⟩ (show T.length ≤ _ by omega)
      simp only at hpk
      have HPK := hide hpk
      clear hpk
      have hs := hb.size
      generalize hok : Fs.pieceOk ⟨K, T, N, C⟩ = ok at HPK
      have HOK := hide hok
      clear hok
      go_wp2_with fail
      refine (HPK.out _).mono ?_
      rintro e w2 ⟨rfl, hq⟩
      have b2 := hb.trans (hq.mono hs)
      have d0 := Below.cellk hq c0
      have d1 := Below.cellk hq c1
      have HCH := hide (fun (a : Addr) (v : Value) (h : w.cell? a = some v) => Below.cellk b2 h)
      clear hq hb c0 c1 c2 c3 HPK
      cases ok
      · have HX : Hid (Fs.piecesOk ps = false) := by
          show _ = _
          unfold Fs.piecesOk
          rw [HA.out]
          simp [Fs.stepOk, HOK.out]
        go_wp2_with fail
        go_ret
        exact ⟨ret_bool HX.out.symm, b2⟩
      · generalize hf : Fs.isFraction K = fr
        have HFR := hide hf
        clear hf
        go_wp2_with fail
        refine (isFraction_any K _).mono ?_
        rw [HFR.out]
        rintro e w3 ⟨rfl, hq⟩
        have f0 := hq.cell d0
        have f1 := hq.cell d1
        have b3 := b2.trans (hq.below _)
        clear d0 d1 hq

        have HF2 : Hid (Fs.fractions (ps.take (k + 1)) = Fs.fractions (ps.take k) + if fr then 1 else 0) := by
          show _ = _
          rw [HF.out]; simp [HFR.out]
        clear HF
        have HF := HF2
        clear HF2
        by_cases hk0 : k = 0
        · have HPR : Hid (prevOf ps k = none) := by show _ = _; simp [prevOf, hk0]
          have g0 : ((k : Int) == 0) = true := by rw [beq_iff_eq]; omega
          have g1 : decide ((0 : Int) < (k : Int)) = false := decide_eq_false (by omega)
          have g2 : decide (0 < k) = false := decide_eq_false (by omega)
          have g3 : ¬ 0 < k := by omega
          clear hk0
          cases fr
          · skip
            have HS : Hid (Fs.stepOk (prevOf ps k) ⟨K, T, N, C⟩ = true) := by
              show _ = _
              rw [HPR.out]
              simp only [Fs.stepOk, HOK.out, HFR.out]; rfl
            go_wp2_with fail
            go_quiet (fail)
            go_wp2_with fail
            go_roundw
            case rel => exact ⟨k + 1, by omega, by go_num, by rw [HF.out]; simp, ⟨(by first | exact b3 | exact b3.trans (hq2.below _) | exact b3.trans ((Qt.drewN (Qt.refl _) _).below _) | exact (b3.trans (hq2.below _)).trans ((Qt.drewN (Qt.refl _) _).below _)), by rw [HA.out, HS.out]; rfl, by omega⟩⟩
            case measure => simp [intOf]; omega
          · skip
            have HS : Hid (Fs.stepOk (prevOf ps k) ⟨K, T, N, C⟩ = false) := by
              show _ = _
              rw [HPR.out]
              simp only [Fs.stepOk, HOK.out, HFR.out]; rfl
            go_wp2_with fail
            go_ret
            exact ⟨ret_bool (by unfold Fs.piecesOk; rw [HA.out, HS.out]; rfl), (by first | exact b3 | exact b3.trans (hq2.below _) | exact b3.trans ((Qt.drewN (Qt.refl _) _).below _) | exact (b3.trans (hq2.below _)).trans ((Qt.drewN (Qt.refl _) _).below _))⟩
        · obtain ⟨j, hj⟩ : ∃ j, k = j + 1 := ⟨k - 1, by omega⟩
          obtain ⟨hqc, hpr⟩ := HQ.out j hj
          generalize ps[j] = q at hqc hpr
          have HPR := hide hpr
          obtain ⟨QK, QT, QN, QC⟩ := q
          have q0 : w3.cell? ⟨b, off + (k - 1) * 4, none⟩ = some (.int .i64 QK) := by
            rw [show k - 1 = j by omega]; exact Below.cellk b3 hqc.c0
          have g0 : ((k : Int) == 0) = false := by rw [beq_eq_false_iff_ne]; omega
          have g1 : decide ((0 : Int) < (k : Int)) = true := decide_eq_true (by omega)
          have g2 : decide (0 < k) = true := decide_eq_true (by omega)
          have g3 : 0 < k := by omega
          clear hqc hpr hj hk0
          by_cases hK : K = 0
          · have eK : (K == 0) = true := by rw [beq_iff_eq]; exact hK
            have nK : (K != 0) = false := by rw [bne, eK]; rfl
            have hfr : fr = false := by
              have := HFR.out
              rw [hK] at this
              rw [← this]; rfl
            have hT : T ≠ [] := by
              have := HOK.out
              rw [hK] at this
              simp [Fs.pieceOk] at this
              exact this.1.1.1
            have hT0 : 0 < T.length := List.length_pos_iff.2 hT
            have hb58 := byte_lt T[0]
            have HT0 : Hid (T[0]? = some T[0]) := by show _ = _; simp [hT0]
            clear hT hK
            subst hfr
            generalize hz : Fs.isZone QK = z
            have HZ := hide hz
            clear hz
            cases z
            · skip
              have HS : Hid (Fs.stepOk (prevOf ps k) ⟨K, T, N, C⟩ = true) := by
                show _ = _
                rw [HPR.out]
                simp only [Fs.stepOk, Fs.pairOk, HOK.out, HFR.out, eK, nK, HZ.out]; rfl
              go_wp2_with fail
              refine (isZone_any QK _).mono ?_
              rw [HZ.out]
              rintro e w4 ⟨rfl, hq2⟩
              have f1' := hq2.cell f1
              have f0' := hq2.cell f0
              clear f0 f1
              go_wp2_with fail
              go_quiet (fail)
              go_wp2_with fail
              go_roundw
              case rel => exact ⟨k + 1, by omega, by go_num, by rw [HF.out]; simp, ⟨(by first | exact b3 | exact b3.trans (hq2.below _) | exact b3.trans ((Qt.drewN (Qt.refl _) _).below _) | exact (b3.trans (hq2.below _)).trans ((Qt.drewN (Qt.refl _) _).below _)), by rw [HA.out, HS.out]; rfl, by omega⟩⟩
              case measure => simp [intOf]; omega
            · by_cases h58 : (T[0].toNat : Int) = 58
              · have e58 : ((T[0].toNat : Int) == 58) = true := by rw [beq_iff_eq]; exact h58
                have HT58 : Hid ((T[0]? == some (58 : UInt8)) = true) := by
                  show _ = _
                  rw [HT0.out, beq_iff_eq]
                  exact congrArg some (byte_of_int (n := 58) (by decide) h58)
                clear h58
                have HS : Hid (Fs.stepOk (prevOf ps k) ⟨K, T, N, C⟩ = false) := by
                  show _ = _
                  rw [HPR.out]
                  simp only [Fs.stepOk, Fs.pairOk, HOK.out, HFR.out, eK, nK, HZ.out, HT58.out]; rfl
                go_wp2_with fail
                refine (isZone_any QK _).mono ?_
                rw [HZ.out]
                rintro e w4 ⟨rfl, hq2⟩
                have f1' := hq2.cell f1
                have f0' := hq2.cell f0
                clear f0 f1
                go_wp2_with fail
                go_ret
                exact ⟨ret_bool (by unfold Fs.piecesOk; rw [HA.out, HS.out]; rfl), (by first | exact b3 | exact b3.trans (hq2.below _) | exact b3.trans ((Qt.drewN (Qt.refl _) _).below _) | exact (b3.trans (hq2.below _)).trans ((Qt.drewN (Qt.refl _) _).below _))⟩
              · have e58 : ((T[0].toNat : Int) == 58) = false := by rw [beq_eq_false_iff_ne]; exact h58
                have HT58 : Hid ((T[0]? == some (58 : UInt8)) = false) := by
                  show _ = _
                  rw [HT0.out, beq_eq_false_iff_ne]
                  intro h
                  rw [Option.some.inj h] at h58
                  exact h58 rfl
                clear h58
                have HS : Hid (Fs.stepOk (prevOf ps k) ⟨K, T, N, C⟩ = true) := by
                  show _ = _
                  rw [HPR.out]
                  simp only [Fs.stepOk, Fs.pairOk, HOK.out, HFR.out, eK, nK, HZ.out, HT58.out]; rfl
                go_wp2_with fail
                refine (isZone_any QK _).mono ?_
                rw [HZ.out]
                rintro e w4 ⟨rfl, hq2⟩
                have f1' := hq2.cell f1
                have f0' := hq2.cell f0
                clear f0 f1
                go_wp2_with fail
                go_quiet (fail)
                go_wp2_with fail
                go_roundw
                case rel => exact ⟨k + 1, by omega, by go_num, by rw [HF.out]; simp, ⟨(by first | exact b3 | exact b3.trans (hq2.below _) | exact b3.trans ((Qt.drewN (Qt.refl _) _).below _) | exact (b3.trans (hq2.below _)).trans ((Qt.drewN (Qt.refl _) _).below _)), by rw [HA.out, HS.out]; rfl, by omega⟩⟩
                case measure => simp [intOf]; omega
          · have eK : (K == 0) = false := by rw [beq_eq_false_iff_ne]; exact hK
            have nK : (K != 0) = true := by rw [bne, eK]; rfl
            clear hK
            generalize ht : Fs.touch QK K = t
            have HT := hide ht
            have hcT := hide (fun W => touch_any QK K W)
            rw [ht] at hcT
            clear ht
            have hcF := hide (fun W => isFraction_any K W)
            rw [HFR.out] at hcF
            by_cases hQ : QK = 0
            · have eQ : (QK == 0) = true := by rw [beq_iff_eq]; exact hQ
              have nQ : (QK != 0) = false := by rw [bne, eQ]; rfl
              clear hQ
              cases fr
              · skip
                have HS : Hid (Fs.stepOk (prevOf ps k) ⟨K, T, N, C⟩ = true) := by
                  show _ = _
                  rw [HPR.out]
                  simp only [Fs.stepOk, Fs.pairOk, HOK.out, HFR.out, eK, nK, nQ]; rfl
                go_wp2_with fail
                go_quiet ((go_at_call 43; exact Calls.quiet_of (hcF.out _)))
                go_wp2_with fail
                go_roundw
                case rel => exact ⟨k + 1, by omega, by go_num, by rw [HF.out]; simp, ⟨(by first | exact b3 | exact b3.trans (hq2.below _) | exact b3.trans ((Qt.drewN (Qt.refl _) _).below _) | exact (b3.trans (hq2.below _)).trans ((Qt.drewN (Qt.refl _) _).below _)), by rw [HA.out, HS.out]; rfl, by omega⟩⟩
                case measure => simp [intOf]; omega
              · cases t
                · skip
                  have HS : Hid (Fs.stepOk (prevOf ps k) ⟨K, T, N, C⟩ = false) := by
                    show _ = _
                    rw [HPR.out]
                    simp only [Fs.stepOk, Fs.pairOk, HOK.out, HFR.out, eK, nK, nQ, HT.out]; rfl
                  go_wp2_with fail
                  go_quiet (first | (go_at_call 43; exact Calls.quiet_of (hcF.out _)) | (go_at_call 45; exact Calls.quiet_of (hcT.out _)))
                  go_wp2_with fail
                  go_ret
                  exact ⟨ret_bool (by unfold Fs.piecesOk; rw [HA.out, HS.out]; rfl), (by first | exact b3 | exact b3.trans (hq2.below _) | exact b3.trans ((Qt.drewN (Qt.refl _) _).below _) | exact (b3.trans (hq2.below _)).trans ((Qt.drewN (Qt.refl _) _).below _))⟩
                · skip
                  have HS : Hid (Fs.stepOk (prevOf ps k) ⟨K, T, N, C⟩ = true) := by
                    show _ = _
                    rw [HPR.out]
                    simp only [Fs.stepOk, Fs.pairOk, HOK.out, HFR.out, eK, nK, nQ, HT.out]; rfl
                  go_wp2_with fail
                  go_quiet (first | (go_at_call 43; exact Calls.quiet_of (hcF.out _)) | (go_at_call 45; exact Calls.quiet_of (hcT.out _)))
                  go_wp2_with fail
                  go_roundw
                  case rel => exact ⟨k + 1, by omega, by go_num, by rw [HF.out]; simp, ⟨(by first | exact b3 | exact b3.trans (hq2.below _) | exact b3.trans ((Qt.drewN (Qt.refl _) _).below _) | exact (b3.trans (hq2.below _)).trans ((Qt.drewN (Qt.refl _) _).below _)), by rw [HA.out, HS.out]; rfl, by omega⟩⟩
                  case measure => simp [intOf]; omega
            · have eQ : (QK == 0) = false := by rw [beq_eq_false_iff_ne]; exact hQ
              have nQ : (QK != 0) = true := by rw [bne, eQ]; rfl
              clear hQ
              cases fr <;> cases t
              · skip
                have HS : Hid (Fs.stepOk (prevOf ps k) ⟨K, T, N, C⟩ = false) := by
                  show _ = _
                  rw [HPR.out]
                  simp only [Fs.stepOk, Fs.pairOk, HOK.out, HFR.out, eK, nK, nQ, HT.out]; rfl
                go_wp2_with fail
                go_quiet ((go_at_call 45; exact Calls.quiet_of (hcT.out _)))
                go_wp2_with fail
                go_ret
                exact ⟨ret_bool (by unfold Fs.piecesOk; rw [HA.out, HS.out]; rfl), (by first | exact b3 | exact b3.trans (hq2.below _) | exact b3.trans ((Qt.drewN (Qt.refl _) _).below _) | exact (b3.trans (hq2.below _)).trans ((Qt.drewN (Qt.refl _) _).below _))⟩
              · skip
                have HS : Hid (Fs.stepOk (prevOf ps k) ⟨K, T, N, C⟩ = true) := by
                  show _ = _
                  rw [HPR.out]
                  simp only [Fs.stepOk, Fs.pairOk, HOK.out, HFR.out, eK, nK, nQ, HT.out]; rfl
                go_wp2_with fail
                go_quiet ((go_at_call 45; exact Calls.quiet_of (hcT.out _)))
                go_wp2_with fail
                go_roundw
                case rel => exact ⟨k + 1, by omega, by go_num, by rw [HF.out]; simp, ⟨(by first | exact b3 | exact b3.trans (hq2.below _) | exact b3.trans ((Qt.drewN (Qt.refl _) _).below _) | exact (b3.trans (hq2.below _)).trans ((Qt.drewN (Qt.refl _) _).below _)), by rw [HA.out, HS.out]; rfl, by omega⟩⟩
                case measure => simp [intOf]; omega
              · skip
                have HS : Hid (Fs.stepOk (prevOf ps k) ⟨K, T, N, C⟩ = false) := by
                  show _ = _
                  rw [HPR.out]
                  simp only [Fs.stepOk, Fs.pairOk, HOK.out, HFR.out, eK, nK, nQ, HT.out]; rfl
                go_wp2_with fail
                go_quiet ((go_at_call 45; exact Calls.quiet_of (hcT.out _)))
                go_wp2_with fail
                go_ret
                exact ⟨ret_bool (by unfold Fs.piecesOk; rw [HA.out, HS.out]; rfl), (by first | exact b3 | exact b3.trans (hq2.below _) | exact b3.trans ((Qt.drewN (Qt.refl _) _).below _) | exact (b3.trans (hq2.below _)).trans ((Qt.drewN (Qt.refl _) _).below _))⟩
              · skip
                have HS : Hid (Fs.stepOk (prevOf ps k) ⟨K, T, N, C⟩ = true) := by
                  show _ = _
                  rw [HPR.out]
                  simp only [Fs.stepOk, Fs.pairOk, HOK.out, HFR.out, eK, nK, nQ, HT.out]; rfl
                go_wp2_with fail
                go_quiet ((go_at_call 45; exact Calls.quiet_of (hcT.out _)))
                go_wp2_with fail
                go_roundw
                case rel => exact ⟨k + 1, by omega, by go_num, by rw [HF.out]; simp, ⟨(by first | exact b3 | exact b3.trans (hq2.below _) | exact b3.trans ((Qt.drewN (Qt.refl _) _).below _) | exact (b3.trans (hq2.below _)).trans ((Qt.drewN (Qt.refl _) _).below _)), by rw [HA.out, HS.out]; rfl, by omega⟩⟩
                case measure => simp [intOf]; omega
    · have hkl : k = ps.length := by omega
      subst hkl
      have HX : Hid (Fs.piecesOk ps = (decide (ps.length ≤ 100) && decide (Fs.fractions ps ≤ 1))) := by
        show _ = _
        unfold Fs.piecesOk
        rw [hPI.out.all]; simp [Fs.allFrom]
      have hb := hPI.out.bel
      rw [List.take_length]
      clear hlt hfl
      by_cases h100 : (ps.length : Int) ≤ 100
      · go_wp2_with fail
        go_ret
        exact ⟨ret_bool (by rw [HX.out, decide_eq_true (show ps.length ≤ 100 by omega), Bool.true_and, Bool.eq_iff_iff]; simp; try omega), hb⟩
      · go_wp2_with fail
        go_ret
        exact ⟨ret_bool (by rw [HX.out, decide_eq_false (show ¬ ps.length ≤ 100 by omega), Bool.false_and]), hb⟩

end Go.Proofs.YtjkfjlifcilejaaDoor
