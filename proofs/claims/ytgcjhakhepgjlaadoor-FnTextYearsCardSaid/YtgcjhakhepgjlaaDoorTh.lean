/-
  WALKS, times, part h: appendInt at any width.
-/
import Derived.Test.YtgcjhakhepgjlaaDoorT2
namespace Go.Proofs.YtgcjhakhepgjlaaDoor
open Go.RowKit
set_option linter.unusedVariables false
attribute [local go_sem] ByteArray.extract_mk get_mk ByteArray.toList_mk ByteArray.mk_append_mk take_drop_len

/-- the number of digits of a number, 0 of 0 -/
def nd (n : Nat) : Nat := if n = 0 then 0 else (Fs.dig n).length
theorem nd_step {n : Nat} (h : 0 < n) : nd n = nd (n / 10) + 1 := by
  unfold nd
  rw [if_neg (by omega)]
  by_cases h1 : n < 10
  · rw [Fs.dig_one h1, if_pos (by omega)]; rfl
  · rw [if_neg (by omega), Fs.dig_more h1]; simp
theorem dig_up {U : Nat} (h : 10 ≤ U) (suf : List UInt8) : Fs.dig (U / 10) ++ (UInt8.ofNat (48 + U % 10) :: suf) = Fs.dig U ++ suf := by
  rw [Fs.dig_more (n := U) (by omega)]; simp
theorem dig_len_up {U m : Nat} (h : 10 ≤ U) (hm : (Fs.dig U).length = m + 1) : (Fs.dig (U / 10)).length = m ∧ 1 ≤ m := by
  rw [Fs.dig_more (n := U) (by omega)] at hm
  have := Fs.dig_len_pos (U / 10)
  simp at hm
  omega

set_option maxRecDepth 100000 in
set_option maxHeartbeats 8000000 in
theorem appendInt_gen (x W : Nat) (hx : x ≤ 1000000000000) (hW : W ≤ 9) (hsw : (W ≠ 2 ∧ W ≠ 4) ∨ (W = 4 ∧ 10000 ≤ x)) {base : Nat} {v : Value} {l : List UInt8} (w : World) (hr : Row w base v l) (hb : base ≤ w.heap.size) (hl : l.length ≤ 70368744177664) :
    Calls Tryd.prog 60 #[v, .int .i64 x, .int .i64 W] w fun e w' => ∃ v', e = .returned v' ∧ Row w' base v' (l ++ Fs.dg W x) ∧ Gr w w' v v' := by
  obtain ⟨i0, hi, hz0, hz1, hz2⟩ := info_parts info_u8
  have e2 : ((W : Int) == 2) = false := by rw [beq_eq_false_iff_ne]; rcases hsw with h | h <;> omega
  have e4 : ((W : Int) == 4) = false ∨ (((W : Int) == 4) = true ∧ 10000 ≤ (x : Int)) := by
    rcases hsw with h | h
    · left; rw [beq_eq_false_iff_ne]; omega
    · right; exact ⟨by rw [beq_iff_eq]; omega, by omega⟩
  have e0 : ((x : Int) == 0) = decide (x = 0) := by rw [Bool.eq_iff_iff]; simp
  clear hsw
  have HND := hide (Fs.dig_lt 12 x (by simpa using Nat.lt_of_le_of_lt hx (by decide)))
  have HP := hide (Fs.dig_len_pos x)
  rcases e4 with e4 | ⟨e4, e5⟩ <;> rcases Nat.eq_zero_or_pos x with hx0 | hx0
  all_goals
    first | rw [decide_eq_true hx0] at e0 | rw [decide_eq_false (by omega)] at e0
    have hx0' : True := trivial
    have HX0 := hide hx0
    clear hx0
    go_enter Tryd.func60, Tryd.ntmps60
    go_wp2_with fail
    go_loop [9, 10] (fun n u => ∃ k U : Nat, n = .int .i64 k ∧ u = .int .u64 U ∧ U ≤ x ∧ k ≤ 14 ∧ k + nd U = (Fs.dig x).length) (fun _ u => (intOf u).toNat)
    case atStart =>
      first
        | exact ⟨1, x, rfl, rfl, by omega, by omega, by have := HX0.out; subst this; simp [nd, Fs.dig_one]⟩
        | exact ⟨0, x, rfl, rfl, by omega, by omega, by have := HX0.out; unfold nd; rw [if_neg (by omega), Nat.zero_add]⟩
    case round =>
      obtain ⟨k, U, rfl, rfl, hU, hk, hn⟩ := hrel
      have HN := hide hn
      clear hn
      by_cases hU0 : 0 < (U : Int)
      · have HU1 : Hid (nd U = nd (U / 10) + 1) := nd_step (by omega)
        go_wp2_with fail
        go_round
        case rel => exact ⟨k + 1, U / 10, by go_num, by rfl, by omega, by have := HN.out; have := HU1.out; have := HND.out; omega, by have := HN.out; have := HU1.out; omega⟩
        case measure => simp [intOf]; omega
      · have HK : Hid (k = (Fs.dig x).length) := by
          show _ = _
          have := HN.out
          have h0 : U = 0 := by omega
          subst h0
          have h1 : nd 0 = 0 := rfl
          omega
        clear HN
        have hk1 : 1 ≤ k ∧ k ≤ 13 := by have := HK.out; have := HND.out; have := HP.out; omega
        obtain ⟨hk1, hk2⟩ := hk1
        go_wp2_with fail
        go_loopw [0, 11] (fun b p wr => ∃ j : Nat, p = .int .i64 ((W : Int) - k - j) ∧ j ≤ W - k ∧ Row wr base b (l ++ List.replicate j 48) ∧ Gr w wr v b) (fun _ p _ => (intOf p).toNat)
        case atStart => exact ⟨0, by simp, by omega, by simpa using hr, Gr.refl _ _⟩
        case round =>
          obtain ⟨j, rfl, hj, hrj, hbj⟩ := hrel
          have hbs := hbj.grown.size
          by_cases hp : 0 < (W : Int) - k - j
          · have hll : (l ++ List.replicate j 48).length + [48].length ≤ 140737488355328 := by simp; omega
            go_wp2_with (at_builtin; refine wpList_append_gr _ rfl (.tmp 86) (.tmp 87) 47 rfl 5 i0 (.int .u8 0) Tryd.underlying47 hi hz0 hz1 hz2 rfl rfl (hrj.alloc _) (by simp; omega) ⟨wr.heap.size, 0, none⟩ 1 1 [48] rfl rfl (news_new wr _ _ _ _ (row1 rfl)) hll ?_; intro v3 w3 hr3 hb3)
            have hr4 : Row w3 base v3 (l ++ List.replicate (j + 1) 48) := by rw [List.replicate_succ', ← List.append_assoc]; exact hr3
            have hb4 := (hbj.alloc _).trans hb3
            clear hr3 hb3 hrj hbj
            go_wp2_with fail
            go_roundw
            case rel => exact ⟨j + 1, by first | rfl | go_num | (congr 1; omega), by omega, hr4, hb4⟩
            case measure => simp [intOf]; omega
          · have hjW : j = W - k := by omega
            obtain ⟨l2, hl2⟩ : ∃ l2, l2 = l ++ List.replicate j 48 := ⟨_, rfl⟩
            have hlen : l2.length = l.length + j := by rw [hl2]; simp
            have HF : Hid (∀ suf, suf = Fs.dig x → l2 ++ suf = l ++ Fs.dg W x) := by
              rintro suf rfl
              rw [hl2, hjW, HK.out]
              simp [Fs.dg, Fs.pad]
            rw [← hl2] at hrj
            have HL := hide hl2
            have HJ := hide hjW
            clear hl2 hjW hr
            have hlb : l2.length ≤ 70368744177700 := by omega
            clear hlen
            obtain ⟨g, off, cap, rfl, hra⟩ := hrj
            have hcapm := hra.max
            unfold maxLen at hcapm
            have hle := hra.le
            by_cases hroom : (l2.length : Int) + k ≤ cap
            · have hP := hra.openP (n := k) (by omega)
              clear hra
              go_wp2_with fail
              go_loopw [7, 12] (fun u i wz => ∃ (U m : Nat) (suf : List UInt8), u = .int .u64 U ∧ i = .int .i64 ((l2.length + m : Nat) : Int) ∧ U ≤ x ∧ m + 1 ≤ k ∧ Hid ((Fs.dig U).length = m + 1 ∧ Fs.dig U ++ suf = Fs.dig x ∧ RowP wz base l2 (m + 1) suf g off cap) ∧ Gr w wz v (.slice (some ⟨g, off, none⟩) (l2.length + k) cap)) (fun u _ _ => (intOf u).toNat)
              case atStart => exact ⟨x, k - 1, [], rfl, by congr 1; omega, by omega, by omega, ⟨by have := HK.out; omega, by simp, by rw [Nat.sub_add_cancel hk1]; exact hP⟩, hbj.cut rfl⟩
              case round =>
                obtain ⟨U3, m, suf, rfl, rfl, hU3, hm, HH, hbz⟩ := hrel
                have hbzs := hbz.grown.size
                by_cases hU10 : 10 ≤ (U3 : Int)
                · have hth := HH.out.2.2.there (l2.length + m) (by have := HH.out.2.2.le; omega)
                  skip
                  obtain ⟨hsome, hfz⟩ := hth
                  obtain ⟨u0, hu0⟩ := Option.isSome_iff_exists.1 hsome
                  clear hsome
                  have hdl := dig_len_up (U := U3) (by omega) HH.out.1
                  obtain ⟨hd1, hd2⟩ := hdl
                  have HD1 := hide hd1
                  clear hd1
                  have hi0 : 0 < ((l2.length + m : Nat) : Int) := by omega
                  have hmod : Hid ((U3 : Int) - (U3 : Int) / 10 * 10 = ((U3 % 10 : Nat) : Int)) := by show _ = _; omega
                  obtain ⟨c, hc⟩ : ∃ c, c = UInt8.ofNat (48 + U3 % 10) := ⟨_, rfl⟩
                  have HC := hide hc
                  clear hc
                  go_wp2_with fail
                  rw [hmod.out]
                  refine (utod_any (U3 % 10) (by omega) c HC.out _).mono ?_
                  rintro e w9 ⟨rfl, hq9⟩
                  have hu9 := hq9.cell hu0
                  have hf9 : w9.frozen? ⟨g, off + (l2.length + m), none⟩ = false := by obtain ⟨n9, rfl⟩ := hq9; exact hfz
                  have hb9 := hbz.then_below (hq9.below _)
                  have hP9 : Hid (RowP w9 base l2 (m + 1) suf g off cap) := by obtain ⟨n9, rfl⟩ := hq9; exact ⟨HH.out.2.2.ge, HH.out.2.2.le, HH.out.2.2.max, HH.out.2.2.pre, HH.out.2.2.post, HH.out.2.2.there⟩
                  clear hq9
                  go_wp2_with fail
                  go_roundw
                  case rel => exact ⟨U3 / 10, m - 1, c :: suf, by rfl, by first | (congr 1; omega) | (congr 1; simp; omega), by omega, by omega, ⟨by have := HD1.out; omega, by rw [HC.out, dig_up (by omega)]; exact HH.out.2.1, by rw [Nat.sub_add_cancel hd2]; exact hP9.out.store c rfl _ (by omega)⟩, hb9.setCell rfl _ _⟩
                  case measure => simp [intOf]; omega
                · have hm0 : m = 0 := by
                    have h1 := HH.out.1
                    rw [Fs.dig_one (by omega)] at h1
                    simp at h1
                    omega
                  subst hm0
                  have hth := HH.out.2.2.there l2.length (by have := HH.out.2.2.le; omega)
                  skip
                  obtain ⟨hsome, hfz⟩ := hth
                  obtain ⟨u0, hu0⟩ := Option.isSome_iff_exists.1 hsome
                  clear hsome
                  have hdU : Hid (Fs.dig U3 = [UInt8.ofNat (48 + U3)]) := Fs.dig_one (by omega)
                  obtain ⟨c, hc⟩ : ∃ c, c = UInt8.ofNat (48 + U3) := ⟨_, rfl⟩
                  have HC := hide hc
                  clear hc
                  go_wp2_with fail
                  refine (utod_any U3 (by omega) c HC.out _).mono ?_
                  rintro e w9 ⟨rfl, hq9⟩
                  have hu9 := hq9.cell hu0
                  have hf9 : w9.frozen? ⟨g, off + l2.length, none⟩ = false := by obtain ⟨n9, rfl⟩ := hq9; exact hfz
                  have hb9 := hbz.then_below (hq9.below _)
                  have hP9 : Hid (RowP w9 base l2 (0 + 1) suf g off cap) := by obtain ⟨n9, rfl⟩ := hq9; exact ⟨HH.out.2.2.ge, HH.out.2.2.le, HH.out.2.2.max, HH.out.2.2.pre, HH.out.2.2.post, HH.out.2.2.there⟩
                  clear hq9
                  go_wp2_with fail
                  go_ret
                  have hx9 : c :: suf = Fs.dig x := by have := HH.out.2.1; rw [hdU.out, ← HC.out] at this; exact this
                  have hrow := (hP9.out.store c rfl (off + l2.length) (by omega)).close
                  have hlx : (l2 ++ c :: suf).length = l2.length + k := by rw [hx9, List.length_append, HK.out]
                  refine ⟨_, rfl, ⟨g, off, cap, ?_, ?_⟩, hb9.setCell rfl _ _⟩
                  · rw [← HF.out _ hx9, hlx]
                    first | rfl | (congr 1; omega)
                  · rw [← HF.out _ hx9]; exact hrow
            · obtain ⟨cap', w3, hrun, hP, hb3⟩ := run_append_zeros_row (P := Tryd.prog) wr 47 3 47 5 i0 (.int .u8 0) .i64 .i64 Tryd.underlying47 Tryd.underlying3 hi hz0 hz1 hz2 rfl hra (by omega) k (by omega) (by omega) (by omega)
              have hb4 : Gr w w3 v (.slice (some ⟨wr.heap.size, 0, none⟩) (l2.length + k) cap') := hbj.fresh hb3 (Nat.le_refl _)
              go_wp2_with (at_builtin; refine Lib.wpList_append_run _ rfl _ _ _ _ rfl _ _ rfl rfl _ _ hrun ?_)
              generalize wr.heap.size = G at *
              go_wp2_with fail
              go_loopw [7, 12] (fun u i wz => ∃ (U m : Nat) (suf : List UInt8), u = .int .u64 U ∧ i = .int .i64 ((l2.length + m : Nat) : Int) ∧ U ≤ x ∧ m + 1 ≤ k ∧ Hid ((Fs.dig U).length = m + 1 ∧ Fs.dig U ++ suf = Fs.dig x ∧ RowP wz base l2 (m + 1) suf G 0 cap') ∧ Gr w wz v (.slice (some ⟨G, 0, none⟩) (l2.length + k) cap')) (fun u _ _ => (intOf u).toNat)
              case atStart => exact ⟨x, k - 1, [], rfl, by congr 1; omega, by omega, by omega, ⟨by have := HK.out; omega, by simp, by rw [Nat.sub_add_cancel hk1]; exact hP⟩, hb4⟩
              case round =>
                obtain ⟨U3, m, suf, rfl, rfl, hU3, hm, HH, hbz⟩ := hrel
                have hbzs := hbz.grown.size
                by_cases hU10 : 10 ≤ (U3 : Int)
                · have hth := HH.out.2.2.there (l2.length + m) (by have := HH.out.2.2.le; omega)
                  rw [Nat.zero_add] at hth
                  obtain ⟨hsome, hfz⟩ := hth
                  obtain ⟨u0, hu0⟩ := Option.isSome_iff_exists.1 hsome
                  clear hsome
                  have hdl := dig_len_up (U := U3) (by omega) HH.out.1
                  obtain ⟨hd1, hd2⟩ := hdl
                  have HD1 := hide hd1
                  clear hd1
                  have hi0 : 0 < ((l2.length + m : Nat) : Int) := by omega
                  have hmod : Hid ((U3 : Int) - (U3 : Int) / 10 * 10 = ((U3 % 10 : Nat) : Int)) := by show _ = _; omega
                  obtain ⟨c, hc⟩ : ∃ c, c = UInt8.ofNat (48 + U3 % 10) := ⟨_, rfl⟩
                  have HC := hide hc
                  clear hc
                  go_wp2_with fail
                  rw [hmod.out]
                  refine (utod_any (U3 % 10) (by omega) c HC.out _).mono ?_
                  rintro e w9 ⟨rfl, hq9⟩
                  have hu9 := hq9.cell hu0
                  have hf9 : w9.frozen? ⟨G, l2.length + m, none⟩ = false := by obtain ⟨n9, rfl⟩ := hq9; exact hfz
                  have hb9 := hbz.then_below (hq9.below _)
                  have hP9 : Hid (RowP w9 base l2 (m + 1) suf G 0 cap') := by obtain ⟨n9, rfl⟩ := hq9; exact ⟨HH.out.2.2.ge, HH.out.2.2.le, HH.out.2.2.max, HH.out.2.2.pre, HH.out.2.2.post, HH.out.2.2.there⟩
                  clear hq9
                  go_wp2_with fail
                  go_roundw
                  case rel => exact ⟨U3 / 10, m - 1, c :: suf, by rfl, by first | (congr 1; omega) | (congr 1; simp; omega), by omega, by omega, ⟨by have := HD1.out; omega, by rw [HC.out, dig_up (by omega)]; exact HH.out.2.1, by rw [Nat.sub_add_cancel hd2]; exact hP9.out.store c rfl _ (by omega)⟩, hb9.setCell rfl _ _⟩
                  case measure => simp [intOf]; omega
                · have hm0 : m = 0 := by
                    have h1 := HH.out.1
                    rw [Fs.dig_one (by omega)] at h1
                    simp at h1
                    omega
                  subst hm0
                  have hth := HH.out.2.2.there l2.length (by have := HH.out.2.2.le; omega)
                  rw [Nat.zero_add] at hth
                  obtain ⟨hsome, hfz⟩ := hth
                  obtain ⟨u0, hu0⟩ := Option.isSome_iff_exists.1 hsome
                  clear hsome
                  have hdU : Hid (Fs.dig U3 = [UInt8.ofNat (48 + U3)]) := Fs.dig_one (by omega)
                  obtain ⟨c, hc⟩ : ∃ c, c = UInt8.ofNat (48 + U3) := ⟨_, rfl⟩
                  have HC := hide hc
                  clear hc
                  go_wp2_with fail
                  refine (utod_any U3 (by omega) c HC.out _).mono ?_
                  rintro e w9 ⟨rfl, hq9⟩
                  have hu9 := hq9.cell hu0
                  have hf9 : w9.frozen? ⟨G, l2.length, none⟩ = false := by obtain ⟨n9, rfl⟩ := hq9; exact hfz
                  have hb9 := hbz.then_below (hq9.below _)
                  have hP9 : Hid (RowP w9 base l2 (0 + 1) suf G 0 cap') := by obtain ⟨n9, rfl⟩ := hq9; exact ⟨HH.out.2.2.ge, HH.out.2.2.le, HH.out.2.2.max, HH.out.2.2.pre, HH.out.2.2.post, HH.out.2.2.there⟩
                  clear hq9
                  go_wp2_with fail
                  go_ret
                  have hx9 : c :: suf = Fs.dig x := by have := HH.out.2.1; rw [hdU.out, ← HC.out] at this; exact this
                  have hrow := (hP9.out.store c rfl (l2.length) (by omega)).close
                  have hlx : (l2 ++ c :: suf).length = l2.length + k := by rw [hx9, List.length_append, HK.out]
                  refine ⟨_, rfl, ⟨G, 0, cap', ?_, ?_⟩, hb9.setCell rfl _ _⟩
                  · rw [← HF.out _ hx9, hlx]
                    first | rfl | (congr 1; omega)
                  · rw [← HF.out _ hx9]; exact hrow

/-- a number with zeros ahead of it up to a width -/
theorem appendInt_any (x W : Nat) (hx : x ≤ 1000000000000) (hW : W ≤ 9) (hx2 : W = 2 → x < 100) {base : Nat} {v : Value} {l : List UInt8} (w : World) (hr : Row w base v l) (hb : base ≤ w.heap.size) (hl : l.length ≤ 70368744177664) :
    Calls Tryd.prog 60 #[v, .int .i64 x, .int .i64 W] w fun e w' => ∃ v', e = .returned v' ∧ Row w' base v' (l ++ Fs.dg W x) ∧ Gr w w' v v' := by
  by_cases h2 : W = 2 ∧ x < 100
  · obtain ⟨rfl, h⟩ := h2
    exact appendInt_two x h w hr hb hl
  by_cases h4 : W = 4 ∧ x < 10000
  · obtain ⟨rfl, h⟩ := h4
    exact appendInt_four x h w hr hb hl
  by_cases h3 : W = 2
  · exact absurd ⟨h3, hx2 h3⟩ h2
  · exact appendInt_gen x W hx hW (by omega) w hr hb hl
end Go.Proofs.YtgcjhakhepgjlaaDoor
