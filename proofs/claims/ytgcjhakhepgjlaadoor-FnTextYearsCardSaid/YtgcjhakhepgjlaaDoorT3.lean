/-
  WALKS, times, part i: names of months and days; a fraction is written.
-/
import Derived.Test.YtgcjhakhepgjlaaDoorTh
import Derived.Test.YtgcjhakhepgjlaaDoorP2
import Derived.Lib.Hide
import Derived.Test.YtgcjhakhepgjlaaDoorWo5
namespace Go.Proofs.YtgcjhakhepgjlaaDoor
open Go.RowKit
set_option linter.unusedVariables false
attribute [local go_sem] ByteArray.extract_mk get_mk ByteArray.toList_mk ByteArray.mk_append_mk take_drop_len

set_option maxHeartbeats 4000000 in
theorem MonthString_any (m : Nat) (h1 : 1 ≤ m) (h2 : m ≤ 12) (w : World) :
    Calls Tryd.prog 86 #[.int .i64 m] w fun e w' => e = .returned (.string ⟨(Fs.monthName m).toArray⟩) ∧ Below w.heap.size w w' := by
  have hm : m = 1 ∨ m = 2 ∨ m = 3 ∨ m = 4 ∨ m = 5 ∨ m = 6 ∨ m = 7 ∨ m = 8 ∨ m = 9 ∨ m = 10 ∨ m = 11 ∨ m = 12 := by omega
  clear h1 h2
  rcases hm with rfl | rfl | rfl | rfl | rfl | rfl | rfl | rfl | rfl | rfl | rfl | rfl
  all_goals
    go_enter Tryd.func86, Tryd.ntmps86
    go_wp2
    go_ret
    exact ⟨rfl, (Below.refl _ _).alloc (Nat.le_refl _) _⟩
set_option maxHeartbeats 4000000 in
theorem WeekdayString_any (m : Nat) (h2 : m ≤ 6) (w : World) :
    Calls Tryd.prog 88 #[.int .i64 m] w fun e w' => e = .returned (.string ⟨(Fs.dayName m).toArray⟩) ∧ Below w.heap.size w w' := by
  have hm : m = 0 ∨ m = 1 ∨ m = 2 ∨ m = 3 ∨ m = 4 ∨ m = 5 ∨ m = 6 := by omega
  clear h2
  rcases hm with rfl | rfl | rfl | rfl | rfl | rfl | rfl
  all_goals
    go_enter Tryd.func88, Tryd.ntmps88
    go_wp2
    go_ret
    exact ⟨rfl, (Below.refl _ _).alloc (Nat.le_refl _) _⟩
end Go.Proofs.YtgcjhakhepgjlaaDoor

/-
  WALKS, times, part j: a fraction is written (appendNano).
-/
namespace Go.Proofs.YtgcjhakhepgjlaaDoor
open Go.RowKit
set_option linter.unusedVariables false
attribute [local go_sem] ByteArray.extract_mk get_mk ByteArray.toList_mk ByteArray.mk_append_mk take_drop_len

theorem i64_ofInt (a : Nat) (ha : a < 9223372036854775808) : (BitVec.ofInt 64 (a : Int)).toNat = a := by
  rw [BitVec.ofInt_natCast, BitVec.toNat_ofNat]; exact Nat.mod_eq_of_lt (by omega)
theorem i64_and (a b : Nat) (ha : a < 9223372036854775808) (hb : b < 9223372036854775808) : bits .and .i64 (a : Int) (b : Int) = ((a &&& b : Nat) : Int) := by
  have hx : a &&& b < 2 ^ 63 := Nat.and_lt_two_pow _ (by omega)
  show IntKind.i64.wrap ((BitVec.ofInt 64 (a : Int) &&& BitVec.ofInt 64 (b : Int)).toNat : Int) = _
  rw [BitVec.toNat_and, i64_ofInt a ha, i64_ofInt b hb, IntKind.wrap_i64]
  omega
/-- a fraction's number, as a number -/
def fracNat (code n : Nat) (comma : Bool) : Nat := code + n % 4096 * 65536 + if comma then 268435456 else 0

theorem digitsLen_any (s : Nat) (hs : s < 1099511627776) (w : World) :
    Calls Tryd.prog 82 #[.int .i64 s] w fun e w' => e = .returned (.int .i64 ((s / 65536 % 4096 : Nat) : Int)) ∧ Qt w w' := by
  have hb := i64_and (s / 65536) 4095 (by omega) (by omega)
  rw [Nat.and_two_pow_sub_one_eq_mod _ 12] at hb
  have HB := hide hb
  clear hb
  go_enter Tryd.func82, Tryd.ntmps82
  go_wp2
  go_ret
  refine ⟨ret_u ?_, Qt.refl _⟩
  have := HB.out
  simpa using this
theorem separator_any (s : Nat) (hs : s < 1099511627776) (w : World) :
    Calls Tryd.prog 83 #[.int .i64 s] w fun e w' => e = .returned (.int .u8 (((if s / 268435456 = 0 then 46 else 44 : UInt8).toNat : Nat) : Int)) ∧ Qt w w' := by
  by_cases h : s / 268435456 = 0
  · have hb : (((s : Int) / 268435456) == 0) = true := by rw [beq_iff_eq]; omega
    rw [if_pos h]
    clear h
    go_enter Tryd.func83, Tryd.ntmps83
    go_wp2
    go_ret
    exact ⟨rfl, Qt.refl _⟩
  · have hb : (((s : Int) / 268435456) == 0) = false := by rw [beq_eq_false_iff_ne]; omega
    rw [if_neg h]
    clear h
    go_enter Tryd.func83, Tryd.ntmps83
    go_wp2
    go_ret
    exact ⟨rfl, Qt.refl _⟩

theorem row_cut {w : World} {base g off cap : Nat} {l D : List UInt8} {dot : UInt8} (hD : D.length = 9) (h : RowAt w base (l ++ [dot] ++ D) g off cap) (N : Nat) : RowAt w base (l ++ dot :: D.take N) g off cap := by
  have h1 := h.take (l.length + 1 + N)
  have e : (l ++ [dot] ++ D).take (l.length + 1 + N) = l ++ dot :: D.take N := by
    have e1 : l ++ [dot] ++ D = (l ++ [dot]) ++ D := rfl
    have e2 : (l ++ [dot]).length = l.length + 1 := by simp
    rw [e1, List.take_append, e2, List.take_of_length_le (by rw [e2]; omega), show l.length + 1 + N - (l.length + 1) = N by omega]
    simp
  rw [e] at h1
  exact h1
def slLen : Value → Nat
  | .slice _ n _ => n
  | _ => 0
set_option maxRecDepth 100000 in
set_option maxHeartbeats 8000000 in
theorem appendNano_any (nano s : Nat) (hn : nano ≤ 999999999) (hs : s < 1099511627776) (hc : s % 65536 = 34 ∨ s % 65536 = 35) (dot : UInt8) (hdot : dot = if s / 268435456 = 0 then 46 else 44) {base : Nat} {v : Value} {l : List UInt8} (w : World) (hr : Row w base v l) (hb : base ≤ w.heap.size) (hl : l.length ≤ 70368744177000) :
    Calls Tryd.prog 76 #[v, .int .i64 nano, .int .i64 s] w fun e w' => ∃ v', e = .returned v' ∧ Row w' base v' (l ++ Fs.nanoT (s % 65536 == 35) (s / 65536 % 4096) dot nano) ∧ Gr w w' v v' := by
  obtain ⟨i0, hi, hz0, hz1, hz2⟩ := info_parts info_u8
  have hb1 := i64_and s 65535 (by omega) (by omega)
  rw [Nat.and_two_pow_sub_one_eq_mod _ 16] at hb1
  have hb2 : bits BinOp.and IntKind.i64 (s : Int) 65535 = ((s % 65536 : Nat) : Int) := hb1
  clear hb1
  have hdotb : dot = 46 ∨ dot = 44 := by rw [hdot]; split <;> simp
  have HD := hide hdot
  clear hdot
  have hN : s / 65536 % 4096 < 4096 := by omega
  obtain ⟨N, hNe⟩ : ∃ N, N = s / 65536 % 4096 := ⟨_, rfl⟩
  rw [← hNe] at hN ⊢
  have HN := hide hNe
  clear hNe
  have HDG := hide (Fs.dg_dig 9 nano)
  have HLN := hide (Fs.dg_len (w := 9) (n := nano) (by omega) (by omega))
  rcases hc with hc | hc
  · have hT : (s % 65536 == 35) = false := by rw [beq_eq_false_iff_ne]; omega
    rw [hT]
    rw [hc] at hb2
    have HB2 : bits BinOp.and IntKind.i64 (s : Int) 65535 = 34 := hb2
    clear hb2 hc hT
    by_cases hN9 : (N : Int) < 9
    all_goals
      go_enter Tryd.func76, Tryd.ntmps76
      go_wp2_with fail
      refine (digitsLen_any s hs _).mono ?_
      rw [← HN.out]
      rintro e w1 ⟨rfl, hq1⟩
      go_wp2_with fail
      refine (separator_any s hs _).mono ?_
      rw [← HD.out]
      rintro e w2 ⟨rfl, hq2⟩
      have hq := hq1.trans hq2
      have hr2 := hr.below (hq.below _)
      have hs2 := hq.size
      have g2 := ((Gr.refl w v).then_below (hq.below _)).alloc (Obj.cells #[.int .u8 (dot.toNat : Int)] 5)
      clear hq1 hq2
      have HQ := hide hq
      clear hq
      have hb2 : base ≤ w2.heap.size := by omega
      clear hs2
      go_wp2_with (at_builtin; refine wpList_append_gr _ rfl (.tmp 27) (.tmp 29) 47 rfl 5 i0 (.int .u8 0) Tryd.underlying47 hi hz0 hz1 hz2 rfl rfl (hr2.alloc _) (by simp; omega) ⟨w2.heap.size, 0, none⟩ 1 1 [dot] rfl rfl (news_new w2 _ _ _ _ (row1 rfl)) (by simp; omega) ?_; intro v3 w3 hr3 hg3)
      refine (appendInt_any nano 9 (by omega) (by omega) (by omega) w3 hr3 (Nat.le_trans (by simp; omega) hg3.grown.size) (by simp; omega)).mono ?_
      rintro e w4 ⟨v4, rfl, hr4, hg4⟩
      have g4 := (g2.trans hg3).trans hg4
      obtain ⟨g, off, cap, rfl, hra⟩ := hr4
      have hlen : (l ++ [dot] ++ Fs.dg 9 nano).length = l.length + 1 + 9 := by simp [HLN.out]
      rw [hlen] at g4 ⊢
      have hle := hra.le
      rw [hlen] at hle
      have hmx := hra.max
      unfold maxLen at hmx
      clear hg3 hg4 hr3 hr2 g2
      go_wp2_with fail
      go_ret
      have hro := row_cut HLN.out hra N
      refine ⟨_, rfl, ⟨g, off, cap, ?_, hro⟩, g4.cut rfl⟩
      have hl2 : (l ++ dot :: (Fs.dg 9 nano).take N).length = l.length + 1 + min N 9 := by simp [HLN.out]; omega
      rw [show Fs.nanoT false N dot nano = dot :: (Fs.dg 9 nano).take N from rfl, hl2]
      first | (rw [show min N 9 = N by omega]; rfl) | (rw [show min N 9 = 9 by omega]; rfl)
  · have hT : (s % 65536 == 35) = true := by rw [beq_iff_eq]; omega
    rw [hT]
    rw [hc] at hb2
    have HB2 : bits BinOp.and IntKind.i64 (s : Int) 65535 = 35 := hb2
    clear hb2 hc hT
    by_cases hN0 : N = 0
    · have e0 : ((N : Int) == 0) = true := by rw [beq_iff_eq]; omega
      have HR : Hid (Fs.nanoT true N dot nano = []) := by show _ = _; unfold Fs.nanoT; rw [if_pos rfl, if_pos (.inl hN0)]
      clear hN0
      go_enter Tryd.func76, Tryd.ntmps76
      go_wp2_with fail
      refine (digitsLen_any s hs _).mono ?_
      rw [← HN.out]
      rintro e w1 ⟨rfl, hq1⟩
      go_wp2_with fail
      go_ret
      exact ⟨_, rfl, by rw [HR.out, List.append_nil]; exact hr.below (hq1.below _), (Gr.refl w v).then_below (hq1.below _)⟩
    by_cases hnz : nano = 0
    · have e0 : ((N : Int) == 0) = false := by rw [beq_eq_false_iff_ne]; omega
      have e1 : ((nano : Int) == 0) = true := by rw [beq_iff_eq]; omega
      have HR : Hid (Fs.nanoT true N dot nano = []) := by show _ = _; unfold Fs.nanoT; rw [if_pos rfl, if_pos (.inr (.inl hnz))]
      clear hN0 hnz
      go_enter Tryd.func76, Tryd.ntmps76
      go_wp2_with fail
      refine (digitsLen_any s hs _).mono ?_
      rw [← HN.out]
      rintro e w1 ⟨rfl, hq1⟩
      go_wp2_with fail
      go_ret
      exact ⟨_, rfl, by rw [HR.out, List.append_nil]; exact hr.below (hq1.below _), (Gr.refl w v).then_below (hq1.below _)⟩
    have e0 : ((N : Int) == 0) = false := by rw [beq_eq_false_iff_ne]; omega
    have e1 : ((nano : Int) == 0) = false := by rw [beq_eq_false_iff_ne]; omega
    have hN0 := hide hN0
    have hnz := hide hnz
    by_cases hN9 : (N : Int) < 9
    all_goals
      go_enter Tryd.func76, Tryd.ntmps76
      go_wp2_with fail
      refine (digitsLen_any s hs _).mono ?_
      rw [← HN.out]
      rintro e w1 ⟨rfl, hq1⟩
      go_wp2_with fail
      refine (separator_any s hs _).mono ?_
      rw [← HD.out]
      rintro e w2 ⟨rfl, hq2⟩
      have hq := hq1.trans hq2
      have hr2 := hr.below (hq.below _)
      have hs2 := hq.size
      have g2 := ((Gr.refl w v).then_below (hq.below _)).alloc (Obj.cells #[.int .u8 (dot.toNat : Int)] 5)
      clear hq1 hq2
      have HQ := hide hq
      clear hq
      have hb2 : base ≤ w2.heap.size := by omega
      clear hs2
      go_wp2_with (at_builtin; refine wpList_append_gr _ rfl (.tmp 27) (.tmp 29) 47 rfl 5 i0 (.int .u8 0) Tryd.underlying47 hi hz0 hz1 hz2 rfl rfl (hr2.alloc _) (by simp; omega) ⟨w2.heap.size, 0, none⟩ 1 1 [dot] rfl rfl (news_new w2 _ _ _ _ (row1 rfl)) (by simp; omega) ?_; intro v3 w3 hr3 hg3)
      refine (appendInt_any nano 9 (by omega) (by omega) (by omega) w3 hr3 (Nat.le_trans (by simp; omega) hg3.grown.size) (by simp; omega)).mono ?_
      rintro e w4 ⟨v4, rfl, hr4, hg4⟩
      have g4 := (g2.trans hg3).trans hg4
      obtain ⟨g, off, cap, rfl, hra⟩ := hr4
      have hlen : (l ++ [dot] ++ Fs.dg 9 nano).length = l.length + 1 + 9 := by simp [HLN.out]
      rw [hlen] at g4 ⊢
      have hle := hra.le
      rw [hlen] at hle
      have hmx := hra.max
      unfold maxLen at hmx
      clear hg3 hg4 hr3 hr2 g2
      have hro := row_cut HLN.out hra N
      obtain ⟨ds, hds⟩ : ∃ ds, ds = (Fs.dg 9 nano).take N := ⟨_, rfl⟩
      obtain ⟨M, hM⟩ : ∃ M, M = min N 9 := ⟨_, rfl⟩
      have hdl : ds.length = M := by rw [hds, List.length_take, HLN.out, hM]
      rw [← hds] at hro
      have HDD : Hid (∀ i (h : i < ds.length), 48 ≤ ds[i].toNat ∧ ds[i].toNat ≤ 57) := by
        intro i h
        have h1 := HDG.out
        rw [Fs.allDig, List.all_eq_true] at h1
        have h2 : ds[i] ∈ Fs.dg 9 nano := List.mem_of_mem_take (i := N) (by rw [← hds]; exact List.getElem_mem h)
        exact (Fs.isDig_iff _).1 (h1 _ h2)
      have HT : Hid (∀ j, Fs.sig ds = j → Fs.nanoT true N dot nano = if j = 0 then [] else dot :: ds.take j) := by
        intro j hj
        unfold Fs.nanoT
        rw [if_pos rfl, ← hds, hj]
        by_cases h0 : j = 0
        · rw [if_pos (.inr (.inr h0)), if_pos h0]
        · rw [if_neg (by rintro (h | h | h); exact hN0.out h; exact hnz.out h; exact h0 h), if_neg h0, hds, List.take_take]
          have : j ≤ N := by have := Fs.sig_le ds; rw [hj, hds, List.length_take] at this; omega
          rw [Nat.min_eq_left this]
      have HDL := hide hdl
      clear hra hdl hds
      have hM9 : M ≤ 9 := by omega
      have HM := hide hM
      clear hM
      have hw4 : True := trivial
      go_wp2_with fail
      go_loop [0] (fun b => ∃ j : Nat, j ≤ M ∧ b = .slice (some ⟨g, off, none⟩) (l.length + 1 + j) cap ∧ Hid (∀ i (h : i < ds.length), j ≤ i → ds[i] = 48)) (fun b => slLen b)
      case atStart =>
        exact ⟨M, Nat.le_refl _, by first | (rw [show M = N by have := HM.out; omega]) | (rw [show M = 9 by have := HM.out; omega]), fun i h hi => by have := HDL.out; omega⟩
      case round =>
        obtain ⟨j, hj, rfl, hall⟩ := hrel
        rcases j with _ | j
        · have hcd : w4.cell? ⟨g, off + l.length, none⟩ = some (.int .u8 (dot.toNat : Int)) := by
            have := hro.cells l.length (by simp)
            simpa using this
          have hd48 : ((dot.toNat : Int) == 48) = false := by rcases hdotb with h | h <;> rw [h] <;> rfl
          have hdd : ((dot.toNat : Int) == (dot.toNat : Int)) = true := by simp
          have hS : Hid (Fs.sig ds = 0) := Fs.sig_zero ds (fun i h => hall.out i h (Nat.zero_le _))
          go_wp2_with fail
          go_ret
          have hr0 := hro.take l.length
          rw [show (l ++ dot :: ds).take l.length = l by simp] at hr0
          refine ⟨_, rfl, ⟨g, off, cap, ?_, ?_⟩, g4.cut rfl⟩
          · rw [HT.out 0 hS.out, if_pos rfl]; simp
          · rw [HT.out 0 hS.out, if_pos rfl]; simpa using hr0
        · have hjd : j < ds.length := by have := HDL.out; omega
          have hcd : w4.cell? ⟨g, off + (l.length + 1 + j), none⟩ = some (.int .u8 (ds[j].toNat : Int)) := by
            have := hro.cells (l.length + 1 + j) (by simp; omega)
            rw [this, List.getElem_append_right (by omega)]
            congr 3
            simp [show l.length + 1 + j - l.length = j + 1 by omega]
          have hdg := HDD.out j hjd
          have hbt := byte_lt ds[j]
          by_cases h48 : (ds[j].toNat : Int) = 48
          · have hd48 : ((ds[j].toNat : Int) == 48) = true := by rw [h48]; rfl
            have H48 : Hid (ds[j] = 48) := by show _ = _; apply UInt8.toNat_inj.1; show ds[j].toNat = 48; omega
            clear h48
            go_wp2_with fail
            go_round
            case rel => exact ⟨j, by omega, by rfl, fun i h hi => by
              by_cases e : i = j
              · subst e; exact H48.out
              · exact hall.out i h (by omega)⟩
            case measure => simp [slLen]
          · have hd48 : ((ds[j].toNat : Int) == 48) = false := by rw [beq_eq_false_iff_ne]; exact h48
            have hne48 : ds[j] ≠ 48 := fun e => h48 (by rw [e]; rfl)
            have hdd : ((ds[j].toNat : Int) == (dot.toNat : Int)) = false := by rw [beq_eq_false_iff_ne]; rcases hdotb with h | h <;> rw [h] <;> simp <;> omega
            have hS : Hid (Fs.sig ds = j + 1) := Fs.sig_eq ds (j + 1) (by omega) (fun i h hi => hall.out i h hi) (fun h _ => by simpa using hne48)
            clear h48 hne48
            go_wp2_with fail
            go_ret
            have hr0 := hro.take (l.length + 1 + (j + 1))
            have he : (l ++ dot :: ds).take (l.length + 1 + (j + 1)) = l ++ dot :: ds.take (j + 1) := by rw [List.take_append, List.take_of_length_le (by omega), show l.length + 1 + (j + 1) - l.length = j + 1 + 1 by omega]; rfl
            rw [he] at hr0
            have hT2 := HT.out (j + 1) hS.out
            rw [if_neg (by omega)] at hT2
            refine ⟨_, rfl, ⟨g, off, cap, ?_, ?_⟩, g4.cut rfl⟩
            · rw [hT2]
              have : (l ++ dot :: ds.take (j + 1)).length = l.length + 1 + (j + 1) := by simp; omega
              rw [this]; rfl
            · rw [hT2]; exact hr0
end Go.Proofs.YtgcjhakhepgjlaaDoor

/-
  WALKS, times, part u: the frame of appendFormat (printed by wip/py/gen_fmt.py).
-/
namespace Go.Proofs.YtgcjhakhepgjlaaDoor
open Go.RowKit
set_option linter.unusedVariables false
set_option linter.unusedSimpArgs false
attribute [local go_sem] ByteArray.extract_mk get_mk ByteArray.toList_mk ByteArray.mk_append_mk take_drop_len

/-- a frame of 393 slots, written out -/
theorem lay393 (a : Act) (hs : a.tmps.size = 393) (hd : a.defers = []) : ∃ u : Nat → Value, (∀ i, a.tmps.getD i undef = u i) ∧ a = ⟨#[u 0, u 1, u 2, u 3, u 4, u 5, u 6, u 7, u 8, u 9, u 10, u 11, u 12, u 13, u 14, u 15, u 16, u 17, u 18, u 19, u 20, u 21, u 22, u 23, u 24, u 25, u 26, u 27, u 28, u 29, u 30, u 31, u 32, u 33, u 34, u 35, u 36, u 37, u 38, u 39, u 40, u 41, u 42, u 43, u 44, u 45, u 46, u 47, u 48, u 49, u 50, u 51, u 52, u 53, u 54, u 55, u 56, u 57, u 58, u 59, u 60, u 61, u 62, u 63, u 64, u 65, u 66, u 67, u 68, u 69, u 70, u 71, u 72, u 73, u 74, u 75, u 76, u 77, u 78, u 79, u 80, u 81, u 82, u 83, u 84, u 85, u 86, u 87, u 88, u 89, u 90, u 91, u 92, u 93, u 94, u 95, u 96, u 97, u 98, u 99, u 100, u 101, u 102, u 103, u 104, u 105, u 106, u 107, u 108, u 109, u 110, u 111, u 112, u 113, u 114, u 115, u 116, u 117, u 118, u 119, u 120, u 121, u 122, u 123, u 124, u 125, u 126, u 127, u 128, u 129, u 130, u 131, u 132, u 133, u 134, u 135, u 136, u 137, u 138, u 139, u 140, u 141, u 142, u 143, u 144, u 145, u 146, u 147, u 148, u 149, u 150, u 151, u 152, u 153, u 154, u 155, u 156, u 157, u 158, u 159, u 160, u 161, u 162, u 163, u 164, u 165, u 166, u 167, u 168, u 169, u 170, u 171, u 172, u 173, u 174, u 175, u 176, u 177, u 178, u 179, u 180, u 181, u 182, u 183, u 184, u 185, u 186, u 187, u 188, u 189, u 190, u 191, u 192, u 193, u 194, u 195, u 196, u 197, u 198, u 199, u 200, u 201, u 202, u 203, u 204, u 205, u 206, u 207, u 208, u 209, u 210, u 211, u 212, u 213, u 214, u 215, u 216, u 217, u 218, u 219, u 220, u 221, u 222, u 223, u 224, u 225, u 226, u 227, u 228, u 229, u 230, u 231, u 232, u 233, u 234, u 235, u 236, u 237, u 238, u 239, u 240, u 241, u 242, u 243, u 244, u 245, u 246, u 247, u 248, u 249, u 250, u 251, u 252, u 253, u 254, u 255, u 256, u 257, u 258, u 259, u 260, u 261, u 262, u 263, u 264, u 265, u 266, u 267, u 268, u 269, u 270, u 271, u 272, u 273, u 274, u 275, u 276, u 277, u 278, u 279, u 280, u 281, u 282, u 283, u 284, u 285, u 286, u 287, u 288, u 289, u 290, u 291, u 292, u 293, u 294, u 295, u 296, u 297, u 298, u 299, u 300, u 301, u 302, u 303, u 304, u 305, u 306, u 307, u 308, u 309, u 310, u 311, u 312, u 313, u 314, u 315, u 316, u 317, u 318, u 319, u 320, u 321, u 322, u 323, u 324, u 325, u 326, u 327, u 328, u 329, u 330, u 331, u 332, u 333, u 334, u 335, u 336, u 337, u 338, u 339, u 340, u 341, u 342, u 343, u 344, u 345, u 346, u 347, u 348, u 349, u 350, u 351, u 352, u 353, u 354, u 355, u 356, u 357, u 358, u 359, u 360, u 361, u 362, u 363, u 364, u 365, u 366, u 367, u 368, u 369, u 370, u 371, u 372, u 373, u 374, u 375, u 376, u 377, u 378, u 379, u 380, u 381, u 382, u 383, u 384, u 385, u 386, u 387, u 388, u 389, u 390, u 391, u 392], []⟩ := by
  refine ⟨fun i => a.tmps.getD i undef, fun _ => rfl, ?_⟩
  obtain ⟨t, d⟩ := a
  obtain rfl : d = [] := hd
  congr 1
  have h : t = ((List.range 393).map fun i => t.getD i undef).toArray := by
    apply Array.ext
    · simpa using hs
    · intro i h1 h2
      simp [Array.getD, h1]
  exact h.trans (by kernel_rfl)
def headReg : Code → Option Nat
  | .region n _ _ => some n
  | .seq a _ => headReg a
  | _ => none
/-- the code from a region on -/
def tailAt (n : Nat) : Code → Option Code
  | .seq a b => if headReg a = some n then some (.seq a b) else match tailAt n a with
    | some c => some c
    | none => tailAt n b
  | .block _ c => tailAt n c
  | .scope c => tailAt n c
  | .cond _ a b => match tailAt n a with
    | some c => some c
    | none => tailAt n b
  | .loop c => tailAt n c
  | _ => none
noncomputable def af16 : Code := (Tryd.f77.body.bind (tailAt 16)).getD .skip
noncomputable def af18 : Code := (Tryd.f77.body.bind (tailAt 18)).getD .skip
noncomputable def af20 : Code := (Tryd.f77.body.bind (tailAt 20)).getD .skip
noncomputable def af22 : Code := (Tryd.f77.body.bind (tailAt 22)).getD .skip

/-- what the slots hold that stay from round to round -/
structure Fr where
  rest : Value
  ptr : Value
  nm : Value
  off : Value
  abs : Value
  days : Value
  y : Value
  mo : Value
  d : Value
  yd : Value
  h : Value
  mi : Value
  s : Value
/-- the frame at hand -/
structure AF (a : Act) (v : Value) (F : Fr) : Prop where
  size : a.tmps.size = 393
  defers : a.defers = []
  s1 : a.tmps.getD 1 undef = v
  s2 : a.tmps.getD 2 undef = F.rest
  s3 : a.tmps.getD 3 undef = F.ptr
  s7 : a.tmps.getD 7 undef = F.nm
  s8 : a.tmps.getD 8 undef = F.off
  s9 : a.tmps.getD 9 undef = F.abs
  s10 : a.tmps.getD 10 undef = F.days
  s11 : a.tmps.getD 11 undef = F.y
  s12 : a.tmps.getD 12 undef = F.mo
  s13 : a.tmps.getD 13 undef = F.d
  s14 : a.tmps.getD 14 undef = F.yd
  s15 : a.tmps.getD 15 undef = F.h
  s16 : a.tmps.getD 16 undef = F.mi
  s17 : a.tmps.getD 17 undef = F.s

/-- the numbers of a time are within their bounds -/
structure TmOk (t : Fs.Tm) : Prop where
  year : t.year ≤ 9999
  m1 : 1 ≤ t.month
  m2 : t.month ≤ 12
  day : t.day ≤ 31
  yday : t.yday ≤ 366
  wday : t.wday ≤ 6
  hour : t.hour ≤ 23
  min : t.min ≤ 59
  sec : t.sec ≤ 59
  nano : t.nano ≤ 999999999
  name : t.name.length ≤ 1000
  o1 : -100000 ≤ t.off
  o2 : t.off ≤ 100000
  o3 : t.off = 0 ∨ 60 ≤ t.off ∨ t.off ≤ -60
/-- what an element leaves: the frame, its text behind the row, and what stays -/
def Left (t : Fs.Tm) (σ : Int) (F : Fr) (base : Nat) (v : Value) (l : List UInt8) (w : World) (Q : Exit → Act → World → Prop) : Prop :=
  ∀ a' w' v', AF a' v' F → Row w' base v' (l ++ Fs.elem t σ) → Gr w w' v v' → Q .normal a' w'
theorem utc_len : utcB.length = 3 := rfl
theorem dg_two_le {n : Nat} (h : n < 100) : (Fs.dg 2 n).length ≤ 2 := Nat.le_of_eq (Fs.dg_len (by omega) (by omega))
end Go.Proofs.YtgcjhakhepgjlaaDoor
