/-
  WALKS, times, part k: appendInt of a negative number at width 4 (printed by wip/py/gen_neg.py).
-/
import Derived.Test.YtgcjhakhepgjlaaDoorTh
namespace Go.Proofs.YtgcjhakhepgjlaaDoor
open Go.RowKit
set_option linter.unusedVariables false
attribute [local go_sem] ByteArray.extract_mk get_mk ByteArray.toList_mk ByteArray.mk_append_mk take_drop_len

set_option maxRecDepth 100000 in
set_option maxHeartbeats 4000000 in
theorem appendInt_nfour (x : Nat) (h0 : 0 < x) (hx : x < 10000) {base : Nat} {v : Value} {l : List UInt8} (l1 : List UInt8) (hl1 : l1 = l ++ [45]) (w : World) (hr : Row w base v l) (hb : base ≤ w.heap.size) (hl : l.length ≤ 70368744177664) :
    Calls Tryd.prog 60 #[v, .int .i64 (-(x : Int)), .int .i64 4] w fun e w' => ∃ v', e = .returned v' ∧ Row w' base v' (l1 ++ Fs.dg 4 x) ∧ Gr w w' v v' := by
  have HL1 := hide hl1
  have hneg : -(x : Int) < 0 := by omega
  have hlen1 : l1.length ≤ 70368744177665 := by rw [hl1]; simp; omega
  clear hl1
  obtain ⟨i0, hi, hz0, hz1, hz2⟩ := info_parts info_u8
  rw [Fs.dg_four hx]
  have hx1 : x / 1000 < 10 := by omega
  have hx2 : x / 100 % 10 < 10 := by omega
  have hx3 : x / 10 % 10 < 10 := by omega
  have hx4 : x % 10 < 10 := by omega
  obtain ⟨c1, hc1⟩ : ∃ c, c = UInt8.ofNat (48 + x / 1000) := ⟨_, rfl⟩
  obtain ⟨c2, hc2⟩ : ∃ c, c = UInt8.ofNat (48 + x / 100 % 10) := ⟨_, rfl⟩
  obtain ⟨c3, hc3⟩ : ∃ c, c = UInt8.ofNat (48 + x / 10 % 10) := ⟨_, rfl⟩
  obtain ⟨c4, hc4⟩ : ∃ c, c = UInt8.ofNat (48 + x % 10) := ⟨_, rfl⟩
  rw [← hc1, ← hc2, ← hc3, ← hc4]
  have HC1 := hide hc1
  have HC2 := hide hc2
  have HC3 := hide hc3
  have HC4 := hide hc4
  clear hc1 hc2 hc3 hc4
  go_enter Tryd.func60, Tryd.ntmps60
  go_wp2_with (at_builtin; refine wpList_append_gr _ rfl (.tmp 18) (.tmp 19) 47 rfl 5 i0 (.int .u8 0) Tryd.underlying47 hi hz0 hz1 hz2 rfl rfl (hr.alloc _) (by simp; omega) ⟨w.heap.size, 0, none⟩ 1 1 [45] rfl rfl (news_new w _ _ _ _ (row1 rfl)) (by simp; omega) ?_; intro v1 w1 hr1 hg1; rw [← HL1.out] at hr1; have G1 := ((Gr.refl w v).alloc (Obj.cells #[.int .u8 45] 5)).trans hg1; have hb1 : base ≤ w1.heap.size := Nat.le_trans hb G1.grown.size; clear hg1 hr)
  refine (utod_any (x / 1000) hx1 c1 HC1.out _).mono ?_
  rintro e w1 ⟨rfl, hq1⟩
  go_wp2_with fail
  refine (utod_any (x / 100 % 10) hx2 c2 HC2.out _).mono ?_
  rintro e w2 ⟨rfl, hq2⟩
  go_wp2_with fail
  refine (utod_any (x / 10 % 10) hx3 c3 HC3.out _).mono ?_
  rintro e w3 ⟨rfl, hq3⟩
  go_wp2_with fail
  refine (utod_any (x % 10) hx4 c4 HC4.out _).mono ?_
  rintro e w4 ⟨rfl, hq4⟩
  have hq := ((hq1.trans hq2).trans hq3).trans hq4
  have hr2 := hr1.below (hq.below _)
  have hs2 := hq.size
  have hb2 : base ≤ w4.heap.size := by omega
  have B2 := (G1.then_below (hq.below _)).alloc (Obj.cells #[.int .u8 (c1.toNat : Int), .int .u8 (c2.toNat : Int), .int .u8 (c3.toNat : Int), .int .u8 (c4.toNat : Int)] 5)
  clear hq1 hq2 hq3 hq4 hr1 hs2
  have HQ := hide hq
  clear hq
  go_wp2_with (at_builtin; refine wpList_append_gr _ rfl (.tmp 49) (.tmp 68) 47 rfl 5 i0 (.int .u8 0) Tryd.underlying47 hi hz0 hz1 hz2 rfl rfl (hr2.alloc _) (by simp; omega) ⟨w4.heap.size, 0, none⟩ 4 4 [c1, c2, c3, c4] rfl rfl (news_new w4 _ _ _ _ (row4 rfl rfl rfl rfl)) (by simp; omega) ?_; intro v3 w3 hr3 hb3)
  go_ret
  exact ⟨_, rfl, hr3, B2.trans hb3⟩

set_option maxRecDepth 100000 in
set_option maxHeartbeats 8000000 in
theorem appendInt_ngen (x W : Nat) (h0 : 0 < x) (hx : x ≤ 1000000000000) (hW : W ≤ 9) (hsw : (W ≠ 2 ∧ W ≠ 4) ∨ (W = 4 ∧ 10000 ≤ x)) {base : Nat} {v : Value} {l : List UInt8} (l1 : List UInt8) (hl1 : l1 = l ++ [45]) (w : World) (hr : Row w base v l) (hb : base ≤ w.heap.size) (hl : l.length ≤ 70368744177664) :
    Calls Tryd.prog 60 #[v, .int .i64 (-(x : Int)), .int .i64 W] w fun e w' => ∃ v', e = .returned v' ∧ Row w' base v' (l1 ++ Fs.dg W x) ∧ Gr w w' v v' := by
  have HL1 := hide hl1
  have hneg : -(x : Int) < 0 := by omega
  have hlen1 : l1.length ≤ 70368744177665 := by rw [hl1]; simp; omega
  clear hl1
  obtain ⟨i0, hi, hz0, hz1, hz2⟩ := info_parts info_u8
  have e2 : ((W : Int) == 2) = false := by rw [beq_eq_false_iff_ne]; rcases hsw with h | h <;> omega
  have e4 : ((W : Int) == 4) = false ∨ (((W : Int) == 4) = true ∧ 10000 ≤ (x : Int)) := by
    rcases hsw with h | h
    · left; rw [beq_eq_false_iff_ne]; omega
    · right; exact ⟨by rw [beq_iff_eq]; omega, by omega⟩
  have e0 : ((x : Int) == 0) = decide (x = 0) := by rw [Bool.eq_iff_iff]; simp
  clear hsw
  have HND := hide (Fs.dig_lt 12 x (by simpa using Nat.lt_of_le_of_lt hx (by decide)))
  have HP := hide (Fs.dig_len_pos x)
  rcases e4 with e4 | ⟨e4, e5⟩ <;> rcases Nat.eq_zero_or_pos x with hx0 | hx0
  all_goals
    first | rw [decide_eq_true hx0] at e0 | rw [decide_eq_false (by omega)] at e0
    have hx0' : True := trivial
    have HX0 := hide hx0
    clear hx0
    go_enter Tryd.func60, Tryd.ntmps60
    go_wp2_with (at_builtin; refine wpList_append_gr _ rfl (.tmp 18) (.tmp 19) 47 rfl 5 i0 (.int .u8 0) Tryd.underlying47 hi hz0 hz1 hz2 rfl rfl (hr.alloc _) (by simp; omega) ⟨w.heap.size, 0, none⟩ 1 1 [45] rfl rfl (news_new w _ _ _ _ (row1 rfl)) (by simp; omega) ?_; intro v1 w1 hr1 hg1; rw [← HL1.out] at hr1; have G1 := ((Gr.refl w v).alloc (Obj.cells #[.int .u8 45] 5)).trans hg1; have hb1 : base ≤ w1.heap.size := Nat.le_trans hb G1.grown.size; clear hg1 hr)
    clear hl
    go_loop [9, 10] (fun n u => ∃ k U : Nat, n = .int .i64 k ∧ u = .int .u64 U ∧ U ≤ x ∧ k ≤ 14 ∧ k + nd U = (Fs.dig x).length) (fun _ u => (intOf u).toNat)
    case atStart =>
      first
        | exact ⟨1, x, rfl, rfl, by omega, by omega, by have := HX0.out; subst this; simp [nd, Fs.dig_one]⟩
        | exact ⟨0, x, rfl, rfl, by omega, by omega, by have := HX0.out; unfold nd; rw [if_neg (by omega), Nat.zero_add]⟩
    case round =>
      obtain ⟨k, U, rfl, rfl, hU, hk, hn⟩ := hrel
      have HN := hide hn
      clear hn
      by_cases hU0 : 0 < (U : Int)
      · have HU1 : Hid (nd U = nd (U / 10) + 1) := nd_step (by omega)
        go_wp2_with fail
        go_round
        case rel => exact ⟨k + 1, U / 10, by go_num, by rfl, by omega, by have := HN.out; have := HU1.out; have := HND.out; omega, by have := HN.out; have := HU1.out; omega⟩
        case measure => simp [intOf]; omega
      · have HK : Hid (k = (Fs.dig x).length) := by
          show _ = _
          have := HN.out
          have h0 : U = 0 := by omega
          subst h0
          have h1 : nd 0 = 0 := rfl
          omega
        clear HN
        have hk1 : 1 ≤ k ∧ k ≤ 13 := by have := HK.out; have := HND.out; have := HP.out; omega
        obtain ⟨hk1, hk2⟩ := hk1
        go_wp2_with fail
        go_loopw [0, 11] (fun b p wr => ∃ j : Nat, p = .int .i64 ((W : Int) - k - j) ∧ j ≤ W - k ∧ Row wr base b (l1 ++ List.replicate j 48) ∧ Gr w wr v b) (fun _ p _ => (intOf p).toNat)
        case atStart => exact ⟨0, by simp, by omega, by simpa using hr1, G1⟩
        case round =>
          obtain ⟨j, rfl, hj, hrj, hbj⟩ := hrel
          have hbs := hbj.grown.size
          by_cases hp : 0 < (W : Int) - k - j
          · have hll : (l1 ++ List.replicate j 48).length + [48].length ≤ 140737488355328 := by simp; omega
            go_wp2_with (at_builtin; refine wpList_append_gr _ rfl (.tmp 86) (.tmp 87) 47 rfl 5 i0 (.int .u8 0) Tryd.underlying47 hi hz0 hz1 hz2 rfl rfl (hrj.alloc _) (by simp; omega) ⟨wr.heap.size, 0, none⟩ 1 1 [48] rfl rfl (news_new wr _ _ _ _ (row1 rfl)) hll ?_; intro v3 w3 hr3 hb3)
            have hr4 : Row w3 base v3 (l1 ++ List.replicate (j + 1) 48) := by rw [List.replicate_succ', ← List.append_assoc]; exact hr3
            have hb4 := (hbj.alloc _).trans hb3
            clear hr3 hb3 hrj hbj
            go_wp2_with fail
            go_roundw
            case rel => exact ⟨j + 1, by first | rfl | go_num | (congr 1; omega), by omega, hr4, hb4⟩
            case measure => simp [intOf]; omega
          · have hjW : j = W - k := by omega
            obtain ⟨l2, hl2⟩ : ∃ l2, l2 = l1 ++ List.replicate j 48 := ⟨_, rfl⟩
            have hlen : l2.length = l1.length + j := by rw [hl2]; simp
            have HF : Hid (∀ suf, suf = Fs.dig x → l2 ++ suf = l1 ++ Fs.dg W x) := by
              rintro suf rfl
              rw [hl2, hjW, HK.out]
              simp [Fs.dg, Fs.pad]
            rw [← hl2] at hrj
            have HL := hide hl2
            have HJ := hide hjW
            clear hl2 hjW hr1
            have hlb : l2.length ≤ 70368744177700 := by omega
            clear hlen
            obtain ⟨g, off, cap, rfl, hra⟩ := hrj
            have hcapm := hra.max
            unfold maxLen at hcapm
            have hle := hra.le
            by_cases hroom : (l2.length : Int) + k ≤ cap
            · have hP := hra.openP (n := k) (by omega)
              clear hra
              go_wp2_with fail
              go_loopw [7, 12] (fun u i wz => ∃ (U m : Nat) (suf : List UInt8), u = .int .u64 U ∧ i = .int .i64 ((l2.length + m : Nat) : Int) ∧ U ≤ x ∧ m + 1 ≤ k ∧ Hid ((Fs.dig U).length = m + 1 ∧ Fs.dig U ++ suf = Fs.dig x ∧ RowP wz base l2 (m + 1) suf g off cap) ∧ Gr w wz v (.slice (some ⟨g, off, none⟩) (l2.length + k) cap)) (fun u _ _ => (intOf u).toNat)
              case atStart => exact ⟨x, k - 1, [], rfl, by congr 1; omega, by omega, by omega, ⟨by have := HK.out; omega, by simp, by rw [Nat.sub_add_cancel hk1]; exact hP⟩, hbj.cut rfl⟩
              case round =>
                obtain ⟨U3, m, suf, rfl, rfl, hU3, hm, HH, hbz⟩ := hrel
                have hbzs := hbz.grown.size
                by_cases hU10 : 10 ≤ (U3 : Int)
                · have hth := HH.out.2.2.there (l2.length + m) (by have := HH.out.2.2.le; omega)
                  skip
                  obtain ⟨hsome, hfz⟩ := hth
                  obtain ⟨u0, hu0⟩ := Option.isSome_iff_exists.1 hsome
                  clear hsome
                  have hdl := dig_len_up (U := U3) (by omega) HH.out.1
                  obtain ⟨hd1, hd2⟩ := hdl
                  have HD1 := hide hd1
                  clear hd1
                  have hi0 : 0 < ((l2.length + m : Nat) : Int) := by omega
                  have hmod : Hid ((U3 : Int) - (U3 : Int) / 10 * 10 = ((U3 % 10 : Nat) : Int)) := by show _ = _; omega
                  obtain ⟨c, hc⟩ : ∃ c, c = UInt8.ofNat (48 + U3 % 10) := ⟨_, rfl⟩
                  have HC := hide hc
                  clear hc
                  go_wp2_with fail
                  rw [hmod.out]
                  refine (utod_any (U3 % 10) (by omega) c HC.out _).mono ?_
                  rintro e w9 ⟨rfl, hq9⟩
                  have hu9 := hq9.cell hu0
                  have hf9 : w9.frozen? ⟨g, off + (l2.length + m), none⟩ = false := by obtain ⟨n9, rfl⟩ := hq9; exact hfz
                  have hb9 := hbz.then_below (hq9.below _)
                  have hP9 : Hid (RowP w9 base l2 (m + 1) suf g off cap) := by obtain ⟨n9, rfl⟩ := hq9; exact ⟨HH.out.2.2.ge, HH.out.2.2.le, HH.out.2.2.max, HH.out.2.2.pre, HH.out.2.2.post, HH.out.2.2.there⟩
                  clear hq9
                  go_wp2_with fail
                  go_roundw
                  case rel => exact ⟨U3 / 10, m - 1, c :: suf, by rfl, by first | (congr 1; omega) | (congr 1; simp; omega), by omega, by omega, ⟨by have := HD1.out; omega, by rw [HC.out, dig_up (by omega)]; exact HH.out.2.1, by rw [Nat.sub_add_cancel hd2]; exact hP9.out.store c rfl _ (by omega)⟩, hb9.setCell rfl _ _⟩
                  case measure => simp [intOf]; omega
                · have hm0 : m = 0 := by
                    have h1 := HH.out.1
                    rw [Fs.dig_one (by omega)] at h1
                    simp at h1
                    omega
                  subst hm0
                  have hth := HH.out.2.2.there l2.length (by have := HH.out.2.2.le; omega)
                  skip
                  obtain ⟨hsome, hfz⟩ := hth
                  obtain ⟨u0, hu0⟩ := Option.isSome_iff_exists.1 hsome
                  clear hsome
                  have hdU : Hid (Fs.dig U3 = [UInt8.ofNat (48 + U3)]) := Fs.dig_one (by omega)
                  obtain ⟨c, hc⟩ : ∃ c, c = UInt8.ofNat (48 + U3) := ⟨_, rfl⟩
                  have HC := hide hc
                  clear hc
                  go_wp2_with fail
                  refine (utod_any U3 (by omega) c HC.out _).mono ?_
                  rintro e w9 ⟨rfl, hq9⟩
                  have hu9 := hq9.cell hu0
                  have hf9 : w9.frozen? ⟨g, off + l2.length, none⟩ = false := by obtain ⟨n9, rfl⟩ := hq9; exact hfz
                  have hb9 := hbz.then_below (hq9.below _)
                  have hP9 : Hid (RowP w9 base l2 (0 + 1) suf g off cap) := by obtain ⟨n9, rfl⟩ := hq9; exact ⟨HH.out.2.2.ge, HH.out.2.2.le, HH.out.2.2.max, HH.out.2.2.pre, HH.out.2.2.post, HH.out.2.2.there⟩
                  clear hq9
                  go_wp2_with fail
                  go_ret
                  have hx9 : c :: suf = Fs.dig x := by have := HH.out.2.1; rw [hdU.out, ← HC.out] at this; exact this
                  have hrow := (hP9.out.store c rfl (off + l2.length) (by omega)).close
                  have hlx : (l2 ++ c :: suf).length = l2.length + k := by rw [hx9, List.length_append, HK.out]
                  refine ⟨_, rfl, ⟨g, off, cap, ?_, ?_⟩, hb9.setCell rfl _ _⟩
                  · rw [← HF.out _ hx9, hlx]
                    first | rfl | (congr 1; omega)
                  · rw [← HF.out _ hx9]; exact hrow
            · obtain ⟨cap', w3, hrun, hP, hb3⟩ := run_append_zeros_row (P := Tryd.prog) wr 47 3 47 5 i0 (.int .u8 0) .i64 .i64 Tryd.underlying47 Tryd.underlying3 hi hz0 hz1 hz2 rfl hra (by omega) k (by omega) (by omega) (by omega)
              have hb4 : Gr w w3 v (.slice (some ⟨wr.heap.size, 0, none⟩) (l2.length + k) cap') := hbj.fresh hb3 (Nat.le_refl _)
              go_wp2_with (at_builtin; refine Lib.wpList_append_run _ rfl _ _ _ _ rfl _ _ rfl rfl _ _ hrun ?_)
              generalize wr.heap.size = G at *
              go_wp2_with fail
              go_loopw [7, 12] (fun u i wz => ∃ (U m : Nat) (suf : List UInt8), u = .int .u64 U ∧ i = .int .i64 ((l2.length + m : Nat) : Int) ∧ U ≤ x ∧ m + 1 ≤ k ∧ Hid ((Fs.dig U).length = m + 1 ∧ Fs.dig U ++ suf = Fs.dig x ∧ RowP wz base l2 (m + 1) suf G 0 cap') ∧ Gr w wz v (.slice (some ⟨G, 0, none⟩) (l2.length + k) cap')) (fun u _ _ => (intOf u).toNat)
              case atStart => exact ⟨x, k - 1, [], rfl, by congr 1; omega, by omega, by omega, ⟨by have := HK.out; omega, by simp, by rw [Nat.sub_add_cancel hk1]; exact hP⟩, hb4⟩
              case round =>
                obtain ⟨U3, m, suf, rfl, rfl, hU3, hm, HH, hbz⟩ := hrel
                have hbzs := hbz.grown.size
                by_cases hU10 : 10 ≤ (U3 : Int)
                · have hth := HH.out.2.2.there (l2.length + m) (by have := HH.out.2.2.le; omega)
                  rw [Nat.zero_add] at hth
                  obtain ⟨hsome, hfz⟩ := hth
                  obtain ⟨u0, hu0⟩ := Option.isSome_iff_exists.1 hsome
                  clear hsome
                  have hdl := dig_len_up (U := U3) (by omega) HH.out.1
                  obtain ⟨hd1, hd2⟩ := hdl
                  have HD1 := hide hd1
                  clear hd1
                  have hi0 : 0 < ((l2.length + m : Nat) : Int) := by omega
                  have hmod : Hid ((U3 : Int) - (U3 : Int) / 10 * 10 = ((U3 % 10 : Nat) : Int)) := by show _ = _; omega
                  obtain ⟨c, hc⟩ : ∃ c, c = UInt8.ofNat (48 + U3 % 10) := ⟨_, rfl⟩
                  have HC := hide hc
                  clear hc
                  go_wp2_with fail
                  rw [hmod.out]
                  refine (utod_any (U3 % 10) (by omega) c HC.out _).mono ?_
                  rintro e w9 ⟨rfl, hq9⟩
                  have hu9 := hq9.cell hu0
                  have hf9 : w9.frozen? ⟨G, l2.length + m, none⟩ = false := by obtain ⟨n9, rfl⟩ := hq9; exact hfz
                  have hb9 := hbz.then_below (hq9.below _)
                  have hP9 : Hid (RowP w9 base l2 (m + 1) suf G 0 cap') := by obtain ⟨n9, rfl⟩ := hq9; exact ⟨HH.out.2.2.ge, HH.out.2.2.le, HH.out.2.2.max, HH.out.2.2.pre, HH.out.2.2.post, HH.out.2.2.there⟩
                  clear hq9
                  go_wp2_with fail
                  go_roundw
                  case rel => exact ⟨U3 / 10, m - 1, c :: suf, by rfl, by first | (congr 1; omega) | (congr 1; simp; omega), by omega, by omega, ⟨by have := HD1.out; omega, by rw [HC.out, dig_up (by omega)]; exact HH.out.2.1, by rw [Nat.sub_add_cancel hd2]; exact hP9.out.store c rfl _ (by omega)⟩, hb9.setCell rfl _ _⟩
                  case measure => simp [intOf]; omega
                · have hm0 : m = 0 := by
                    have h1 := HH.out.1
                    rw [Fs.dig_one (by omega)] at h1
                    simp at h1
                    omega
                  subst hm0
                  have hth := HH.out.2.2.there l2.length (by have := HH.out.2.2.le; omega)
                  rw [Nat.zero_add] at hth
                  obtain ⟨hsome, hfz⟩ := hth
                  obtain ⟨u0, hu0⟩ := Option.isSome_iff_exists.1 hsome
                  clear hsome
                  have hdU : Hid (Fs.dig U3 = [UInt8.ofNat (48 + U3)]) := Fs.dig_one (by omega)
                  obtain ⟨c, hc⟩ : ∃ c, c = UInt8.ofNat (48 + U3) := ⟨_, rfl⟩
                  have HC := hide hc
                  clear hc
                  go_wp2_with fail
                  refine (utod_any U3 (by omega) c HC.out _).mono ?_
                  rintro e w9 ⟨rfl, hq9⟩
                  have hu9 := hq9.cell hu0
                  have hf9 : w9.frozen? ⟨G, l2.length, none⟩ = false := by obtain ⟨n9, rfl⟩ := hq9; exact hfz
                  have hb9 := hbz.then_below (hq9.below _)
                  have hP9 : Hid (RowP w9 base l2 (0 + 1) suf G 0 cap') := by obtain ⟨n9, rfl⟩ := hq9; exact ⟨HH.out.2.2.ge, HH.out.2.2.le, HH.out.2.2.max, HH.out.2.2.pre, HH.out.2.2.post, HH.out.2.2.there⟩
                  clear hq9
                  go_wp2_with fail
                  go_ret
                  have hx9 : c :: suf = Fs.dig x := by have := HH.out.2.1; rw [hdU.out, ← HC.out] at this; exact this
                  have hrow := (hP9.out.store c rfl (l2.length) (by omega)).close
                  have hlx : (l2 ++ c :: suf).length = l2.length + k := by rw [hx9, List.length_append, HK.out]
                  refine ⟨_, rfl, ⟨G, 0, cap', ?_, ?_⟩, hb9.setCell rfl _ _⟩
                  · rw [← HF.out _ hx9, hlx]
                    first | rfl | (congr 1; omega)
                  · rw [← HF.out _ hx9]; exact hrow


/-- a year as it is written -/
def yearText (y : Int) : List UInt8 := if y < 0 then 45 :: Fs.dg 4 y.natAbs else Fs.dg 4 y.toNat
theorem appendInt_year (y : Int) (hy : -100000000 ≤ y ∧ y ≤ 100000000) {base : Nat} {v : Value} {l : List UInt8} (w : World) (hr : Row w base v l) (hb : base ≤ w.heap.size) (hl : l.length ≤ 70368744177664) :
    Calls Tryd.prog 60 #[v, .int .i64 y, .int .i64 4] w fun e w' => ∃ v', e = .returned v' ∧ Row w' base v' (l ++ yearText y) ∧ Gr w w' v v' := by
  by_cases hn : y < 0
  · obtain ⟨x, rfl⟩ : ∃ x : Nat, y = -(x : Int) := ⟨y.natAbs, by omega⟩
    have e : l ++ yearText (-(x : Int)) = (l ++ [45]) ++ Fs.dg 4 x := by
      unfold yearText
      rw [if_pos hn]
      simp
    rw [e]
    by_cases h4 : x < 10000
    · exact appendInt_nfour x (by omega) h4 _ rfl w hr hb hl
    · exact appendInt_ngen x 4 (by omega) (by omega) (by omega) (.inr ⟨rfl, by omega⟩) _ rfl w hr hb hl
  · obtain ⟨x, rfl⟩ : ∃ x : Nat, y = (x : Int) := ⟨y.toNat, by omega⟩
    have e : yearText (x : Int) = Fs.dg 4 x := by
      unfold yearText
      rw [if_neg hn]
      rfl
    rw [e]
    exact appendInt_any x 4 (by omega) (by omega) (by omega) w hr hb hl
theorem dig_ge {n : Nat} (h : 10000 ≤ n) : 5 ≤ (Fs.dig n).length := by
  have := Fs.dig_len_pos (n / 10 / 10 / 10 / 10)
  rw [Fs.dig_more (n := n) (by omega), Fs.dig_more (n := n / 10) (by omega), Fs.dig_more (n := n / 10 / 10) (by omega), Fs.dig_more (n := n / 10 / 10 / 10) (by omega)]
  simp only [List.length_append, List.length_cons, List.length_nil]
  omega
theorem dg_at {w n k : Nat} (hk : k < (Fs.dg w n).length) : ∃ c : UInt8, (Fs.dg w n)[k]? = some c ∧ c ≠ 45 := by
  refine ⟨(Fs.dg w n)[k], List.getElem?_eq_getElem hk, fun e => ?_⟩
  have h := Fs.dg_dig w n
  unfold Fs.allDig at h
  have := List.all_eq_true.1 h _ (List.getElem_mem hk)
  rw [e] at this
  exact absurd this (by decide)
/-- the fifth sign of a year that has not four digits is no dash -/
theorem yearText_at {y : Int} (hy : y < 0 ∨ 9999 < y) : ∃ c : UInt8, (yearText y)[4]? = some c ∧ c ≠ 45 := by
  unfold yearText
  by_cases hn : y < 0
  · rw [if_pos hn]
    obtain ⟨c, hc, hne⟩ := dg_at (w := 4) (n := y.natAbs) (k := 3) (by simp [Fs.dg, Fs.pad]; omega)
    exact ⟨c, by simpa using hc, hne⟩
  · rw [if_neg hn]
    have := dig_ge (n := y.toNat) (by omega)
    exact dg_at (by simp [Fs.dg, Fs.pad]; omega)
theorem yearText_le {y : Int} (hy : -100000000 ≤ y ∧ y ≤ 100000000) : (yearText y).length ≤ 20 := by
  unfold yearText
  by_cases hn : y < 0
  · rw [if_pos hn]
    have := Fs.dig_lt 9 y.natAbs (by omega)
    simp [Fs.dg, Fs.pad]
    omega
  · rw [if_neg hn]
    have := Fs.dig_lt 9 y.toNat (by omega)
    simp [Fs.dg, Fs.pad]
    omega
end Go.Proofs.YtgcjhakhepgjlaaDoor
