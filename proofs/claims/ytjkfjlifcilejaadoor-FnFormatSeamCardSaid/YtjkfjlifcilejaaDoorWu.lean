/-
  WALKS, part u: element.
-/
import Derived.Test.YtjkfjlifcilejaaDoorWt
import Derived.Test.YtjkfjlifcilejaaDoorRow
namespace Go.Proofs.YtjkfjlifcilejaaDoor
open Go.RowKit
set_option linter.unusedVariables false
attribute [local go_sem] ByteArray.extract_mk get_mk ByteArray.toList_mk ByteArray.mk_append_mk take_drop_len

theorem info_u8 : (Tryd.prog.info? 5).map (fun i => (i.zero, i.size, i.bytes)) = some (some (.int .u8 0), 1, 1) := by kernel_rfl

set_option maxHeartbeats 4000000 in
theorem element_plain (K : Int) (T : List UInt8) (N : Int) (C : Bool) (h0 : 0 ≤ K) (h1 : K ≤ 32) (w : World) : Calls Tryd.prog 46 #[.agg #[.int .i64 K, .string ⟨T.toArray⟩, .int .i64 N, .bool C]] w fun e w' => e = .returned (.string ⟨(Fs.element ⟨K, T, N, C⟩).toArray⟩) ∧ Below w.heap.size w w' := by
  have b0 := ((Below.refl w.heap.size w).alloc (Nat.le_refl _) (Obj.cells #[.int .i64 K, .string ⟨List.toArray T⟩, .int .i64 N, .bool C] 34))
  have hK : K = 0 ∨ K = 1 ∨ K = 2 ∨ K = 3 ∨ K = 4 ∨ K = 5 ∨ K = 6 ∨ K = 7 ∨ K = 8 ∨ K = 9 ∨ K = 10 ∨ K = 11 ∨ K = 12 ∨ K = 13 ∨ K = 14 ∨ K = 15 ∨ K = 16 ∨ K = 17 ∨ K = 18 ∨ K = 19 ∨ K = 20 ∨ K = 21 ∨ K = 22 ∨ K = 23 ∨ K = 24 ∨ K = 25 ∨ K = 26 ∨ K = 27 ∨ K = 28 ∨ K = 29 ∨ K = 30 ∨ K = 31 ∨ K = 32 := by omega
  clear h0 h1
  rcases hK with rfl | rfl | rfl | rfl | rfl | rfl | rfl | rfl | rfl | rfl | rfl | rfl | rfl | rfl | rfl | rfl | rfl | rfl | rfl | rfl | rfl | rfl | rfl | rfl | rfl | rfl | rfl | rfl | rfl | rfl | rfl | rfl | rfl
  all_goals
    go_enter Tryd.func46, Tryd.ntmps46
    go_wp2_with fail
    go_ret
    exact ⟨rfl, b0⟩

theorem markB_one (C : Bool) : ∃ m, Fs.markB C = [m] := by cases C <;> exact ⟨_, rfl⟩
theorem rep_snoc (m d : UInt8) (k : Nat) : m :: List.replicate k d ++ [d] = m :: List.replicate (k + 1) d := by
  rw [List.cons_append, ← List.replicate_succ']

set_option maxHeartbeats 4000000 in
theorem element_std0 (T : List UInt8) (N : Nat) (C : Bool) (hN : N ≤ 9) (w : World) : Calls Tryd.prog 46 #[.agg #[.int .i64 33, .string ⟨T.toArray⟩, .int .i64 N, .bool C]] w fun e w' => e = .returned (.string ⟨(Fs.markB C ++ List.replicate N 48).toArray⟩) ∧ Below w.heap.size w w' := by
  have b0 := ((Below.refl w.heap.size w).alloc (Nat.le_refl _) (Obj.cells #[.int .i64 33, .string ⟨List.toArray T⟩, .int .i64 N, .bool C] 34))
  obtain ⟨i0, hi, hz0, hz1, hz2⟩ := info_parts info_u8
  obtain ⟨m, hm⟩ := markB_one C
  go_enter Tryd.func46, Tryd.ntmps46
  go_wp2_with fail
  refine (mark_any C _).mono ?_
  rw [hm]
  rintro e w2 ⟨rfl, hq⟩
  have c2 : w2.cell? ⟨w.heap.size, 2, none⟩ = some (.int .i64 N) := hq.cell (World.cell?_alloc_mark w _ _ _ 2)
  have hs2 : w.heap.size < w2.heap.size := by have := (hq.below 0).size; simp at this; omega
  have b2 := b0.trans (hq.below _)
  obtain ⟨g, cap, W, hcv, hrow, hbel⟩ := bytes_row (P := Tryd.prog) w2 9 43 5 [m] (by simp [maxLen]) Tryd.underlying9 Tryd.underlying43 Tryd.underlying5
  have bW := b2.trans (hbel.mono (by omega))
  have cW : W.cell? ⟨w.heap.size, 2, none⟩ = some (.int .i64 N) := (hbel.cell (by exact hs2)).trans c2
  have hsW := hbel.size
  clear b0 hq c2
  go_wp2_with fail
  go_loopw [4, 5] (fun v i wr => ∃ k : Nat, k ≤ N ∧ i = .int .i64 k ∧ Row wr w2.heap.size v (m :: List.replicate k 48) ∧ w2.heap.size ≤ wr.heap.size ∧ wr.cell? ⟨w.heap.size, 2, none⟩ = some (.int .i64 N) ∧ Below w.heap.size w wr)
    (fun _ i _ => N - (intOf i).toNat)
  case atStart => exact ⟨0, Nat.zero_le _, rfl, ⟨g, 0, cap, rfl, hrow⟩, hsW, cW, bW⟩
  case round =>
    clear cW bW hcv hrow
    obtain ⟨k, hk, rfl, hr, hsz, hc, hb⟩ := hrel
    by_cases hlt : k < N
    · have hlt' : (k : Int) < N := by omega
      go_wp2_with (at_builtin; refine wpList_append_row _ rfl (.tmp 88) (.tmp 90) 43 rfl 5 i0 (.int .u8 0) Tryd.underlying43 hi hz0 hz1 hz2 rfl rfl (hr.alloc _) (by simp; omega) ⟨wr.heap.size, 0, none⟩ 1 1 [48] rfl rfl ?c1 ?c2 ?c3)
      case c1 =>
        intro j hj
        have : j = 0 := by simpa using hj
        subst this
        rw [Addr.add_lit]
        exact World.cell?_alloc_mark wr _ _ _ 0
      case c2 => simp; omega
      intro v' w' hr' hb'
      have hr2 : Row w' w2.heap.size v' (m :: List.replicate (k + 1) 48) := by
        rw [← rep_snoc]; exact hr'
      have hbA := (Below.refl w2.heap.size wr).alloc hsz (Obj.cells #[.int .u8 48] 5)
      have hbB := hbA.trans hb'
      have hsz2 := hbB.size
      have hc2 : w'.cell? ⟨w.heap.size, 2, none⟩ = some (.int .i64 N) := (hbB.cell (by exact hs2)).trans hc
      have hb2 := hb.trans (hbB.mono (Nat.le_of_lt hs2))
      clear hr hr' hb' hbA hbB hc hb
      go_wp2_with fail
      go_roundw
      case rel => exact ⟨k + 1, by omega, by go_num, hr2, by omega, hc2, hb2⟩
      case measure => simp [intOf]; omega
    · have hkl : k = N := by omega
      subst hkl
      clear hlt
      have hnl : ¬ ((k : Int) < k) := by omega
      obtain ⟨g', off', cap', rfl, hrow⟩ := hr
      have hcv := string_row (P := Tryd.prog) wr 43 9 5 hrow Tryd.underlying43 Tryd.underlying5 Tryd.underlying9
      rw [show (m :: List.replicate k 48).length = k + 1 by simp] at hcv
      go_wp2_with fail
      go_ret
      exact ⟨rfl, hb⟩
set_option maxHeartbeats 4000000 in
theorem element_std9 (T : List UInt8) (N : Nat) (C : Bool) (hN : N ≤ 9) (w : World) : Calls Tryd.prog 46 #[.agg #[.int .i64 34, .string ⟨T.toArray⟩, .int .i64 N, .bool C]] w fun e w' => e = .returned (.string ⟨(Fs.markB C ++ List.replicate N 57).toArray⟩) ∧ Below w.heap.size w w' := by
  have b0 := ((Below.refl w.heap.size w).alloc (Nat.le_refl _) (Obj.cells #[.int .i64 34, .string ⟨List.toArray T⟩, .int .i64 N, .bool C] 34))
  obtain ⟨i0, hi, hz0, hz1, hz2⟩ := info_parts info_u8
  obtain ⟨m, hm⟩ := markB_one C
  go_enter Tryd.func46, Tryd.ntmps46
  go_wp2_with fail
  refine (mark_any C _).mono ?_
  rw [hm]
  rintro e w2 ⟨rfl, hq⟩
  have c2 : w2.cell? ⟨w.heap.size, 2, none⟩ = some (.int .i64 N) := hq.cell (World.cell?_alloc_mark w _ _ _ 2)
  have hs2 : w.heap.size < w2.heap.size := by have := (hq.below 0).size; simp at this; omega
  have b2 := b0.trans (hq.below _)
  obtain ⟨g, cap, W, hcv, hrow, hbel⟩ := bytes_row (P := Tryd.prog) w2 9 43 5 [m] (by simp [maxLen]) Tryd.underlying9 Tryd.underlying43 Tryd.underlying5
  have bW := b2.trans (hbel.mono (by omega))
  have cW : W.cell? ⟨w.heap.size, 2, none⟩ = some (.int .i64 N) := (hbel.cell (by exact hs2)).trans c2
  have hsW := hbel.size
  clear b0 hq c2
  go_wp2_with fail
  go_loopw [4, 5] (fun v i wr => ∃ k : Nat, k ≤ N ∧ i = .int .i64 k ∧ Row wr w2.heap.size v (m :: List.replicate k 57) ∧ w2.heap.size ≤ wr.heap.size ∧ wr.cell? ⟨w.heap.size, 2, none⟩ = some (.int .i64 N) ∧ Below w.heap.size w wr)
    (fun _ i _ => N - (intOf i).toNat)
  case atStart => exact ⟨0, Nat.zero_le _, rfl, ⟨g, 0, cap, rfl, hrow⟩, hsW, cW, bW⟩
  case round =>
    clear cW bW hcv hrow
    obtain ⟨k, hk, rfl, hr, hsz, hc, hb⟩ := hrel
    by_cases hlt : k < N
    · have hlt' : (k : Int) < N := by omega
      go_wp2_with (at_builtin; refine wpList_append_row _ rfl (.tmp 88) (.tmp 90) 43 rfl 5 i0 (.int .u8 0) Tryd.underlying43 hi hz0 hz1 hz2 rfl rfl (hr.alloc _) (by simp; omega) ⟨wr.heap.size, 0, none⟩ 1 1 [57] rfl rfl ?c1 ?c2 ?c3)
      case c1 =>
        intro j hj
        have : j = 0 := by simpa using hj
        subst this
        rw [Addr.add_lit]
        exact World.cell?_alloc_mark wr _ _ _ 0
      case c2 => simp; omega
      intro v' w' hr' hb'
      have hr2 : Row w' w2.heap.size v' (m :: List.replicate (k + 1) 57) := by
        rw [← rep_snoc]; exact hr'
      have hbA := (Below.refl w2.heap.size wr).alloc hsz (Obj.cells #[.int .u8 57] 5)
      have hbB := hbA.trans hb'
      have hsz2 := hbB.size
      have hc2 : w'.cell? ⟨w.heap.size, 2, none⟩ = some (.int .i64 N) := (hbB.cell (by exact hs2)).trans hc
      have hb2 := hb.trans (hbB.mono (Nat.le_of_lt hs2))
      clear hr hr' hb' hbA hbB hc hb
      go_wp2_with fail
      go_roundw
      case rel => exact ⟨k + 1, by omega, by go_num, hr2, by omega, hc2, hb2⟩
      case measure => simp [intOf]; omega
    · have hkl : k = N := by omega
      subst hkl
      clear hlt
      have hnl : ¬ ((k : Int) < k) := by omega
      obtain ⟨g', off', cap', rfl, hrow⟩ := hr
      have hcv := string_row (P := Tryd.prog) wr 43 9 5 hrow Tryd.underlying43 Tryd.underlying5 Tryd.underlying9
      rw [show (m :: List.replicate k 57).length = k + 1 by simp] at hcv
      go_wp2_with fail
      go_ret
      exact ⟨rfl, hb⟩

theorem element_any (p : Fs.Piece) (hp : Fs.pieceOk p = true) (w : World) : Calls Tryd.prog 46 #[.agg #[.int .i64 p.kind, .string ⟨p.text.toArray⟩, .int .i64 p.n, .bool p.comma]] w fun e w' => e = .returned (.string ⟨(Fs.element p).toArray⟩) ∧ Below w.heap.size w w' := by
  obtain ⟨K, T, N, C⟩ := p
  by_cases h3 : Fs.isFraction K = true
  · have h0 : K ≠ 0 := by rintro rfl; simp [Fs.isFraction] at h3
    have hn : 1 ≤ N ∧ N ≤ 9 := (show T = [] ∧ 1 ≤ N ∧ N ≤ 9 by simpa [Fs.pieceOk, h0, h3, Fs.within] using hp).2
    obtain ⟨M, rfl⟩ : ∃ M : Nat, N = M := ⟨N.toNat, by omega⟩
    have hk : K = 33 ∨ K = 34 := by simpa [Fs.isFraction] using h3
    rcases hk with rfl | rfl
    · refine (element_std0 T M C (by omega) w).mono ?_
      rintro e w' ⟨rfl, hb⟩
      exact ⟨by simp [Fs.element], hb⟩
    · refine (element_std9 T M C (by omega) w).mono ?_
      rintro e w' ⟨rfl, hb⟩
      exact ⟨by simp [Fs.element], hb⟩
  · have hk : 0 ≤ K ∧ K ≤ 32 := by
      by_cases h0 : K = 0
      · omega
      · have h1 : 1 ≤ K ∧ K ≤ 34 := by
          have := hp
          simp [Fs.pieceOk, h0, h3, Fs.within] at this
          omega
        simp [Fs.isFraction] at h3
        omega
    exact element_plain K T N C hk.1 hk.2 w

end Go.Proofs.YtjkfjlifcilejaaDoor
