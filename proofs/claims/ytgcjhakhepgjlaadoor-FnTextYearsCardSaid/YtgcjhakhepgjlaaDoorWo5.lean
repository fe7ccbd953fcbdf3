/-
  WALKS, part o: nextStdChunk answers 'Fs.next': the rounds joined (printed by wip/py/gen_next2.py).
-/
import Derived.Test.YtgcjhakhepgjlaaDoorWo1
import Derived.Test.YtgcjhakhepgjlaaDoorWo2
import Derived.Test.YtgcjhakhepgjlaaDoorWo3
import Derived.Test.YtgcjhakhepgjlaaDoorWo4
namespace Go.Proofs.YtgcjhakhepgjlaaDoor
open Go.RowKit
set_option linter.unusedVariables false
attribute [local go_sem] ByteArray.extract_mk get_mk ByteArray.toList_mk ByteArray.mk_append_mk take_drop_len

set_option maxRecDepth 100000 in
set_option maxHeartbeats 4000000 in
theorem next_any (l : List UInt8) (hl : l.length ≤ 140737488351000) (w : World) (E : HStd w) :
    Calls Tryd.prog 84 #[.string ⟨l.toArray⟩] w fun e w' => e = .returned (nextV (Fs.next l)) ∧ Qt w w' := by
  go_enter Tryd.func84, Tryd.ntmps84
  go_wp2_with fail
  refine wp_loop (NI l w) (fun a _ => Nmu l a) ?start ?round
  case start => exact NI_mk (Qt.refl _) rfl rfl rfl 0 (by omega) (by simp [Fs.pre_nil]) rfl
  case round =>
    rintro a w1 ⟨hq0, hs, hd, h0, k, hk, hN, h5⟩
    obtain ⟨u, hu, ha⟩ := lay654 a hs hd
    rw [hu] at h0 h5
    have hM : Nmu l a = l.length - k := by unfold Nmu; rw [hu, h5]; rfl
    rw [hM, ha, h0, h5]
    clear hM ha hu hs hd h0 h5
    have HN := hide hN
    clear hN
    have E1 := E.qt hq0
    by_cases hlt : k < l.length
    · by_cases hc74 : (l[k].toNat : Int) = 74
      · exact round_c74 l hl w w1 E1 hq0 k hk HN u hlt hc74 _ (fun _ _ h => h)
      by_cases hc77 : (l[k].toNat : Int) = 77
      · exact round_c77 l hl w w1 E1 hq0 k hk HN u hlt hc77 _ (fun _ _ h => h)
      by_cases hc48 : (l[k].toNat : Int) = 48
      · exact round_c48 l hl w w1 E1 hq0 k hk HN u hlt hc48 _ (fun _ _ h => h)
      by_cases hc49 : (l[k].toNat : Int) = 49
      · exact round_c49 l hl w w1 E1 hq0 k hk HN u hlt hc49 _ (fun _ _ h => h)
      by_cases hc50 : (l[k].toNat : Int) = 50
      · exact round_c50 l hl w w1 E1 hq0 k hk HN u hlt hc50 _ (fun _ _ h => h)
      by_cases hc95 : (l[k].toNat : Int) = 95
      · exact round_c95 l hl w w1 E1 hq0 k hk HN u hlt hc95 _ (fun _ _ h => h)
      by_cases hc51 : (l[k].toNat : Int) = 51
      · exact round_c51 l hl w w1 E1 hq0 k hk HN u hlt hc51 _ (fun _ _ h => h)
      by_cases hc52 : (l[k].toNat : Int) = 52
      · exact round_c52 l hl w w1 E1 hq0 k hk HN u hlt hc52 _ (fun _ _ h => h)
      by_cases hc53 : (l[k].toNat : Int) = 53
      · exact round_c53 l hl w w1 E1 hq0 k hk HN u hlt hc53 _ (fun _ _ h => h)
      by_cases hc80 : (l[k].toNat : Int) = 80
      · exact round_c80 l hl w w1 E1 hq0 k hk HN u hlt hc80 _ (fun _ _ h => h)
      by_cases hc112 : (l[k].toNat : Int) = 112
      · exact round_c112 l hl w w1 E1 hq0 k hk HN u hlt hc112 _ (fun _ _ h => h)
      by_cases hc45 : (l[k].toNat : Int) = 45
      · exact round_c45 l hl w w1 E1 hq0 k hk HN u hlt hc45 _ (fun _ _ h => h)
      by_cases hc90 : (l[k].toNat : Int) = 90
      · exact round_c90 l hl w w1 E1 hq0 k hk HN u hlt hc90 _ (fun _ _ h => h)
      by_cases hc46 : (l[k].toNat : Int) = 46
      · exact round_c46 l hl w w1 E1 hq0 k hk HN u hlt hc46 _ (fun _ _ h => h)
      by_cases hc44 : (l[k].toNat : Int) = 44
      · exact round_c44 l hl w w1 E1 hq0 k hk HN u hlt hc44 _ (fun _ _ h => h)
      exact round_other l hl w w1 E1 hq0 k hk HN u hlt hc74 hc77 hc48 hc49 hc50 hc95 hc51 hc52 hc53 hc80 hc112 hc45 hc90 hc46 hc44 _ (fun _ _ h => h)
    · obtain ⟨hge⟩ : Nonempty (l.length ≤ k) := ⟨by omega⟩
      have HX : Hid (Fs.next l = (l, 0, [])) := by
        have hkk : k = l.length := by omega
        subst hkk
        exact Fs.next_end HN.out
      go_wp2_with fail
      go_ret3
      exact ⟨congrArg _ (nextV_of HX.out), hq0⟩

end Go.Proofs.YtgcjhakhepgjlaaDoor
