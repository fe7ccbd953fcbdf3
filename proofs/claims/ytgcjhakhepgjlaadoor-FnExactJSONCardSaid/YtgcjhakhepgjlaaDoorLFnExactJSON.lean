/-
  THE LAW FnExactJSON: its walk: it returns true at every input (printed by wip/py/gen_json.py).
-/
import Derived.Test.YtgcjhakhepgjlaaDoorRf
namespace Go.Proofs.YtgcjhakhepgjlaaDoor
open Go.RowKit
set_option linter.unusedVariables false
set_option linter.unusedSimpArgs false
attribute [local go_sem] ByteArray.extract_mk get_mk ByteArray.toList_mk ByteArray.mk_append_mk take_drop_len

set_option maxRecDepth 100000 in
set_option maxHeartbeats 4000000 in
theorem told_FnExactJSON {name : List UInt8} {off : Int} {Y M D Hh Mi S Ns : Nat} (CF : CivF Y M D Hh Mi S Ns name off Y M D Hh Mi S Ns) (w : World) (E : HStd w) :
    Calls Tryd.prog 4 #[civilV (Y : Int) (M : Int) (D : Int) (Hh : Int) (Mi : Int) (S : Int) (Ns : Int) name off] w fun e w' => e = .returned (.bool true) ∧ Below w.heap.size w w' := by
  have hfit : decide (name.length ≤ 2147483647) = true := by have := CF.n1; simp; omega
  have hz := fun w => zzFits3_any (Y : Int) (M : Int) (D : Int) (Hh : Int) (Mi : Int) (S : Int) (Ns : Int) name off w
  have hk := fun w => civilOk_any (Y : Int) (M : Int) (D : Int) (Hh : Int) (Mi : Int) (S : Int) (Ns : Int) name (by have := CF.n1; omega) off w
  rw [hfit] at hz
  rw [CF.ok] at hk
  have HZ := hide hz
  have HKO := hide hk
  have HW := hide writes_any
  have HTX := hide (fun w => TextOf_ok CF w)
  have HJS := hide (fun w => JSONOf_ok CF w)
  have hRl := rfc_len CF.tmd
  generalize Fs.rfc (tmOf Y M D Hh Mi S Ns name off) true = R at HTX HJS hRl
  clear hfit hz hk CF
  have b0 := (Below.refl w.heap.size w).alloc (Nat.le_refl _) (Obj.cells #[.int .i64 (Y : Int), .int .i64 (M : Int), .int .i64 (D : Int), .int .i64 (Hh : Int), .int .i64 (Mi : Int), .int .i64 (S : Int), .int .i64 (Ns : Int), .string ⟨name.toArray⟩, .int .i64 off] 27)
  have C0 := CCell.new w (Y : Int) (M : Int) (D : Int) (Hh : Int) (Mi : Int) (S : Int) (Ns : Int) name off
  have E0 := E.below ((Below.refl w.heap.size w).alloc (Nat.le_refl _) (Obj.cells #[.int .i64 (Y : Int), .int .i64 (M : Int), .int .i64 (D : Int), .int .i64 (Hh : Int), .int .i64 (Mi : Int), .int .i64 (S : Int), .int .i64 (Ns : Int), .string ⟨name.toArray⟩, .int .i64 off] 27))
  have HC0 := hide C0
  clear C0
  unfold civilV at *
  generalize h60 : (Int.tmod off 60 != 0) = b60
  have HR := hide hRl
  have l1 : R.length + 1 ≤ 9223372036854775807 := by omega
  have l2 : 1 + R.length ≤ 9223372036854775807 := by omega
  have l3 : R.length + 1 + 1 ≤ 9223372036854775807 := by omega
  have l4 : R.length ≤ 9223372036854775807 := by omega
  clear hRl
  cases b60
  · go_enter Tryd.func4, Tryd.ntmps4
    go_wp2_with fail
    refine (HZ.out _).mono ?_
    rintro e w1 ⟨rfl, hq⟩
    have HC1 := hide (HC0.out.below hq)
    have E1 := E0.below hq
    have b1 := b0.trans (Below.mono hq (by simp))
    clear hq HC0 E0 b0
    obtain ⟨c0, c1, c2, c3, c4, c5, c6, c7, c8⟩ := HC1.out
    go_wp2_with fail
    refine (HKO.out _).mono ?_
    rintro e w2 ⟨rfl, hq⟩
    clear c0 c1 c2 c3 c4 c5 c6 c7 c8
    have HC2 := hide (HC1.out.below hq)
    have E2 := E1.below hq
    have b2 := b1.trans (Below.mono hq b1.size)
    clear hq HC1 E1 b1
    obtain ⟨c0, c1, c2, c3, c4, c5, c6, c7, c8⟩ := HC2.out
    go_wp2_with fail
    refine (HTX.out _).mono ?_
    rintro e w3 ⟨rfl, hq⟩
    clear c0 c1 c2 c3 c4 c5 c6 c7 c8
    have HC3 := hide (HC2.out.below hq)
    have E3 := E2.below hq
    have b3 := b2.trans (Below.mono hq b2.size)
    clear hq HC2 E2 b2
    obtain ⟨c0, c1, c2, c3, c4, c5, c6, c7, c8⟩ := HC3.out
    go_wp2_with fail
    refine (HJS.out _).mono ?_
    rintro e w4 ⟨rfl, hq⟩
    clear c0 c1 c2 c3 c4 c5 c6 c7 c8
    have HC4 := hide (HC3.out.below hq)
    have E4 := E3.below hq
    have b4 := b3.trans (Below.mono hq b3.size)
    clear hq HC3 E3 b3
    obtain ⟨c0, c1, c2, c3, c4, c5, c6, c7, c8⟩ := HC4.out
    clear c0 c1 c2 c3 c4 c5 c6 c7 c8 HC4
    go_wp2_with fail
    refine (HW.out _ E4).mono ?_
    rintro e w5 ⟨rfl, hq⟩
    have b5 := b4.trans (Below.mono hq b4.size)
    clear hq b4 E4
    go_wp2_with fail
    go_ret
    exact ⟨rfl, b5⟩
  · go_enter Tryd.func4, Tryd.ntmps4
    go_wp2_with fail
    refine (HZ.out _).mono ?_
    rintro e w1 ⟨rfl, hq⟩
    have HC1 := hide (HC0.out.below hq)
    have E1 := E0.below hq
    have b1 := b0.trans (Below.mono hq (by simp))
    clear hq HC0 E0 b0
    obtain ⟨c0, c1, c2, c3, c4, c5, c6, c7, c8⟩ := HC1.out
    go_wp2_with fail
    refine (HKO.out _).mono ?_
    rintro e w2 ⟨rfl, hq⟩
    clear c0 c1 c2 c3 c4 c5 c6 c7 c8
    have HC2 := hide (HC1.out.below hq)
    have E2 := E1.below hq
    have b2 := b1.trans (Below.mono hq b1.size)
    clear hq HC1 E1 b1
    obtain ⟨c0, c1, c2, c3, c4, c5, c6, c7, c8⟩ := HC2.out
    go_wp2_with fail
    go_ret
    exact ⟨rfl, b2⟩

theorem law_FnExactJSON (y m d h mi s ns : Int) (name : List UInt8) (off : Int) (hl : name.length ≤ 9223372036854775807) (ho : -9223372036854775808 ≤ off ∧ off ≤ 9223372036854775807) (w : World) (E : HStd w) :
    Calls Tryd.prog 4 #[civilV y m d h mi s ns name off] w fun e w' => e = .returned (.bool true) ∧ Below w.heap.size w w' := by
  have hz := fun w => zzFits3_any y m d h mi s ns name off w
  generalize hfit : decide (name.length ≤ 2147483647) = fit at hz
  have b0 := (Below.refl w.heap.size w).alloc (Nat.le_refl _) (Obj.cells #[.int .i64 y, .int .i64 m, .int .i64 d, .int .i64 h, .int .i64 mi, .int .i64 s, .int .i64 ns, .string ⟨name.toArray⟩, .int .i64 off] 27)
  cases fit
  · have HZ := hide hz
    clear hz hfit
    unfold civilV at *
    go_enter Tryd.func4, Tryd.ntmps4
    go_wp2_with fail
    refine (HZ.out _).mono ?_
    rintro e w1 ⟨rfl, hq⟩
    go_wp2_with fail
    go_ret
    exact ⟨rfl, b0.trans (hq.mono (by simp))⟩
  · have hl2 : name.length ≤ 2147483647 := by simpa using hfit
    have hk := fun w => civilOk_any y m d h mi s ns name (by omega) off w
    generalize hok : Fs.civilOk y m d h mi s ns name off = ok at hk
    cases ok
    · have HZ := hide hz
      have HK := hide hk
      clear hz hk hfit hok
      have C0 := CCell.new w y m d h mi s ns name off
      have HC0 := hide C0
      clear C0
      unfold civilV at *
      go_enter Tryd.func4, Tryd.ntmps4
      go_wp2_with fail
      refine (HZ.out _).mono ?_
      rintro e w1 ⟨rfl, hq⟩
      have b1 := b0.trans (hq.mono (by simp))
      have hs1 := b1.size
      obtain ⟨c0, c1, c2, c3, c4, c5, c6, c7, c8⟩ := HC0.out.below hq
      clear hq b0 HC0
      go_wp2_with fail
      refine (HK.out _).mono ?_
      rintro e w2 ⟨rfl, hq⟩
      clear c0 c1 c2 c3 c4 c5 c6 c7 c8
      go_wp2_with fail
      go_ret
      exact ⟨rfl, b1.trans (hq.mono hs1)⟩
    · obtain ⟨Y, M, D, Hh, Mi, S, Ns, CF⟩ := civF hok
      obtain ⟨rfl, rfl, rfl, rfl, rfl, rfl, rfl⟩ := CF.eqs
      exact told_FnExactJSON CF w E
end Go.Proofs.YtgcjhakhepgjlaaDoor
