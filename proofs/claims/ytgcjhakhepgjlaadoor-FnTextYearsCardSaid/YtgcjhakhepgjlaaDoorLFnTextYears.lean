/-
  THE LAW FnTextYears: its walk: it returns true at every input (printed by wip/py/gen_tyears.py).
-/
import Derived.Test.YtgcjhakhepgjlaaDoorRi
namespace Go.Proofs.YtgcjhakhepgjlaaDoor
open Go.RowKit
set_option linter.unusedVariables false
set_option linter.unusedSimpArgs false
attribute [local go_sem] ByteArray.extract_mk get_mk ByteArray.toList_mk ByteArray.mk_append_mk take_drop_len

theorem CCell.year {w : World} {b : Nat} {y m d h mi s ns : Int} {name : List UInt8} {off : Int} (H : CCell w b y m d h mi s ns name off) (y' : Int) : CCell (w.setCell ⟨b, 0, none⟩ (.int .i64 y')) b y' m d h mi s ns name off := by
  obtain ⟨c0, c1, c2, c3, c4, c5, c6, c7, c8⟩ := H
  constructor <;> go_simp

set_option maxRecDepth 100000 in
set_option maxHeartbeats 4000000 in
theorem told_FnTextYears {name : List UInt8} {off : Int} {Y M D Hh Mi S Ns : Nat} (CF : CivF Y M D Hh Mi S Ns name off Y M D Hh Mi S Ns) (year : Int) (w : World) (E : HStd w) :
    Calls Tryd.prog 5 #[civilV (Y : Int) (M : Int) (D : Int) (Hh : Int) (Mi : Int) (S : Int) (Ns : Int) name off, .int .i64 year] w fun e w' => e = .returned (.bool true) ∧ Below w.heap.size w w' := by
  have hfit : decide (name.length ≤ 2147483647) = true := by have := CF.n1; simp; omega
  have hz := fun w => zzFits3_any (Y : Int) (M : Int) (D : Int) (Hh : Int) (Mi : Int) (S : Int) (Ns : Int) name off w
  have hk := fun w => civilOk_any (Y : Int) (M : Int) (D : Int) (Hh : Int) (Mi : Int) (S : Int) (Ns : Int) name (by have := CF.n1; omega) off w
  rw [hfit] at hz
  rw [CF.ok] at hk
  have HZ := hide hz
  have HKO := hide hk
  have HW := hide writes_any
  have HCF := hide CF
  clear hfit hz hk CF
  have b0 := (Below.refl w.heap.size w).alloc (Nat.le_refl _) (Obj.cells #[.int .i64 (Y : Int), .int .i64 (M : Int), .int .i64 (D : Int), .int .i64 (Hh : Int), .int .i64 (Mi : Int), .int .i64 (S : Int), .int .i64 (Ns : Int), .string ⟨name.toArray⟩, .int .i64 off] 27)
  have C0 := CCell.new w (Y : Int) (M : Int) (D : Int) (Hh : Int) (Mi : Int) (S : Int) (Ns : Int) name off
  have F0 : (w.alloc (Obj.cells #[.int .i64 (Y : Int), .int .i64 (M : Int), .int .i64 (D : Int), .int .i64 (Hh : Int), .int .i64 (Mi : Int), .int .i64 (S : Int), .int .i64 (Ns : Int), .string ⟨name.toArray⟩, .int .i64 off] 27)).frozen? ⟨w.heap.size, 0, none⟩ = false := by go_simp
  have E0 := E.below ((Below.refl w.heap.size w).alloc (Nat.le_refl _) (Obj.cells #[.int .i64 (Y : Int), .int .i64 (M : Int), .int .i64 (D : Int), .int .i64 (Hh : Int), .int .i64 (Mi : Int), .int .i64 (S : Int), .int .i64 (Ns : Int), .string ⟨name.toArray⟩, .int .i64 off] 27))
  have HC0 := hide C0
  have HF0 := hide F0
  clear C0 F0
  unfold civilV at *
  generalize g1 : Fs.within year (-100000000) 100000000 = b1
  generalize g2 : Fs.within year 0 9999 = b2
  have W1 := hide (fun w => within_any year (-100000000) 100000000 w)
  have W2 := hide (fun w => within_any year 0 9999 w)
  rw [g1] at W1
  rw [g2] at W2
  have G1 := hide g1
  have G2 := hide g2
  clear g1 g2
  cases b1
  · go_enter Tryd.func5, Tryd.ntmps5
    go_wp2_with fail
    refine (HZ.out _).mono ?_
    rintro e w1 ⟨rfl, hq⟩
    have HC1 := hide (HC0.out.below hq)
    have HF1 := hide ((hq.frozen (cell_lt HC0.out.c0)).trans HF0.out)
    have E1 := E0.below hq
    have b1 := b0.trans (Below.mono hq (by simp))
    clear hq HC0 HF0 E0 b0
    obtain ⟨c0, c1, c2, c3, c4, c5, c6, c7, c8⟩ := HC1.out
    go_wp2_with fail
    refine (HKO.out _).mono ?_
    rintro e w2 ⟨rfl, hq⟩
    clear c0 c1 c2 c3 c4 c5 c6 c7 c8
    have HC2 := hide (HC1.out.below hq)
    have HF2 := hide ((hq.frozen (cell_lt HC1.out.c0)).trans HF1.out)
    have E2 := E1.below hq
    have b2 := b1.trans (Below.mono hq b1.size)
    clear hq HC1 HF1 E1 b1
    obtain ⟨c0, c1, c2, c3, c4, c5, c6, c7, c8⟩ := HC2.out
    clear c0 c1 c2 c3 c4 c5 c6 c7 c8
    go_wp2_with fail
    refine (W1.out _).mono ?_
    rintro e w3 ⟨rfl, hq⟩
    have HC3 := hide (HC2.out.below (hq.below _))
    have HF3 := hide (((hq.below _).frozen (cell_lt HC2.out.c0)).trans HF2.out)
    have E3 := E2.qt hq
    have b3 := b2.trans (hq.below _)
    clear hq HC2 HF2 E2 b2
    go_wp2_with fail
    go_ret
    exact ⟨rfl, b3⟩
  cases b2
  rotate_left
  · go_enter Tryd.func5, Tryd.ntmps5
    go_wp2_with fail
    refine (HZ.out _).mono ?_
    rintro e w1 ⟨rfl, hq⟩
    have HC1 := hide (HC0.out.below hq)
    have HF1 := hide ((hq.frozen (cell_lt HC0.out.c0)).trans HF0.out)
    have E1 := E0.below hq
    have b1 := b0.trans (Below.mono hq (by simp))
    clear hq HC0 HF0 E0 b0
    obtain ⟨c0, c1, c2, c3, c4, c5, c6, c7, c8⟩ := HC1.out
    go_wp2_with fail
    refine (HKO.out _).mono ?_
    rintro e w2 ⟨rfl, hq⟩
    clear c0 c1 c2 c3 c4 c5 c6 c7 c8
    have HC2 := hide (HC1.out.below hq)
    have HF2 := hide ((hq.frozen (cell_lt HC1.out.c0)).trans HF1.out)
    have E2 := E1.below hq
    have b2 := b1.trans (Below.mono hq b1.size)
    clear hq HC1 HF1 E1 b1
    obtain ⟨c0, c1, c2, c3, c4, c5, c6, c7, c8⟩ := HC2.out
    clear c0 c1 c2 c3 c4 c5 c6 c7 c8
    go_wp2_with fail
    refine (W1.out _).mono ?_
    rintro e w3 ⟨rfl, hq⟩
    have HC3 := hide (HC2.out.below (hq.below _))
    have HF3 := hide (((hq.below _).frozen (cell_lt HC2.out.c0)).trans HF2.out)
    have E3 := E2.qt hq
    have b3 := b2.trans (hq.below _)
    clear hq HC2 HF2 E2 b2
    go_wp2_with fail
    refine (W2.out _).mono ?_
    rintro e w4 ⟨rfl, hq⟩
    have HC4 := hide (HC3.out.below (hq.below _))
    have HF4 := hide (((hq.below _).frozen (cell_lt HC3.out.c0)).trans HF3.out)
    have E4 := E3.qt hq
    have b4 := b3.trans (hq.below _)
    clear hq HC3 HF3 E3 b3
    go_wp2_with fail
    go_ret
    exact ⟨rfl, b4⟩
  · have hy := Fs.within_iff.1 G1.out
    have hy2 : year < 0 ∨ 9999 < year := by
      rcases Int.lt_or_le year 0 with h | h
      · exact .inl h
      · rcases Int.lt_or_le 9999 year with h2 | h2
        · exact .inr h2
        · have := G2.out
          rw [Fs.within_iff.2 ⟨h, h2⟩] at this
          exact absurd this (by decide)
    have HTX := hide (fun w => TextOf_no hy hy2 HCF.out.date HCF.out.clock HCF.out.n1 HCF.out.o1 HCF.out.o2 HCF.out.o3 w)
    have HJS := hide (fun w => JSONOf_no hy hy2 HCF.out.date HCF.out.clock HCF.out.n1 HCF.out.o1 HCF.out.o2 HCF.out.o3 w)
    unfold civilV at HTX HJS
    clear hy hy2 G1 G2 HCF
    go_enter Tryd.func5, Tryd.ntmps5
    go_wp2_with fail
    refine (HZ.out _).mono ?_
    rintro e w1 ⟨rfl, hq⟩
    have HC1 := hide (HC0.out.below hq)
    have HF1 := hide ((hq.frozen (cell_lt HC0.out.c0)).trans HF0.out)
    have E1 := E0.below hq
    have b1 := b0.trans (Below.mono hq (by simp))
    clear hq HC0 HF0 E0 b0
    obtain ⟨c0, c1, c2, c3, c4, c5, c6, c7, c8⟩ := HC1.out
    go_wp2_with fail
    refine (HKO.out _).mono ?_
    rintro e w2 ⟨rfl, hq⟩
    clear c0 c1 c2 c3 c4 c5 c6 c7 c8
    have HC2 := hide (HC1.out.below hq)
    have HF2 := hide ((hq.frozen (cell_lt HC1.out.c0)).trans HF1.out)
    have E2 := E1.below hq
    have b2 := b1.trans (Below.mono hq b1.size)
    clear hq HC1 HF1 E1 b1
    obtain ⟨c0, c1, c2, c3, c4, c5, c6, c7, c8⟩ := HC2.out
    clear c0 c1 c2 c3 c4 c5 c6 c7 c8
    go_wp2_with fail
    refine (W1.out _).mono ?_
    rintro e w3 ⟨rfl, hq⟩
    have HC3 := hide (HC2.out.below (hq.below _))
    have HF3 := hide (((hq.below _).frozen (cell_lt HC2.out.c0)).trans HF2.out)
    have E3 := E2.qt hq
    have b3 := b2.trans (hq.below _)
    clear hq HC2 HF2 E2 b2
    go_wp2_with fail
    refine (W2.out _).mono ?_
    rintro e w4 ⟨rfl, hq⟩
    have HC4 := hide (HC3.out.below (hq.below _))
    have HF4 := hide (((hq.below _).frozen (cell_lt HC3.out.c0)).trans HF3.out)
    have E4 := E3.qt hq
    have b4 := b3.trans (hq.below _)
    clear hq HC3 HF3 E3 b3
    have hf := HF4.out
    have HC5 := hide (HC4.out.year year)
    have b5 := b4.setCell (p := ⟨w.heap.size, 0, none⟩) (Nat.le_refl _) (.int .i64 year)
    have E5 : HStd (w4.setCell ⟨w.heap.size, 0, none⟩ (.int .i64 year)) := by
      have hg : 3 ≠ w.heap.size := by have := cell_lt E.1; simp only at this; omega
      exact ⟨(World.cell?_setCell_other w4 _ _ _ (fun e => hg (congrArg Addr.block e).symm)).trans E4.1, (World.cell?_setCell_other w4 _ _ _ (fun e => hg (congrArg Addr.block e).symm)).trans E4.2.1, (World.cell?_setCell_other w4 _ _ _ (fun e => hg (congrArg Addr.block e).symm)).trans E4.2.2.1, (World.cell?_setCell_other w4 _ _ _ (fun e => hg (congrArg Addr.block e).symm)).trans E4.2.2.2.1, (World.cell?_setCell_other w4 _ _ _ (fun e => hg (congrArg Addr.block e).symm)).trans E4.2.2.2.2.1, (World.cell?_setCell_other w4 _ _ _ (fun e => hg (congrArg Addr.block e).symm)).trans E4.2.2.2.2.2⟩
    have c00 := HC4.out.c0
    obtain ⟨c0, c1, c2, c3, c4, c5, c6, c7, c8⟩ := HC5.out
    clear HC4 HF4 E4 b4
    go_wp2_with fail
    refine (HTX.out _).mono ?_
    rintro e w6 ⟨rfl, hq⟩
    clear c0 c1 c2 c3 c4 c5 c6 c7 c8 c00 hf
    have HC6 := hide (HC5.out.below hq)
    have E6 := E5.below hq
    have b6 := b5.trans (Below.mono hq b5.size)
    clear hq HC5 E5 b5 HTX
    obtain ⟨c0, c1, c2, c3, c4, c5, c6, c7, c8⟩ := HC6.out
    go_wp2_with fail
    refine (HJS.out _).mono ?_
    rintro e w7 ⟨rfl, hq⟩
    clear c0 c1 c2 c3 c4 c5 c6 c7 c8
    have E7 := E6.below hq
    have b7 := b6.trans (Below.mono hq b6.size)
    clear hq HC6 E6 b6 HJS
    go_wp2_with fail
    refine (HW.out _ E7).mono ?_
    rintro e w8 ⟨rfl, hq⟩
    have b8 := b7.trans (Below.mono hq b7.size)
    clear hq b7 E7
    go_wp2_with fail
    go_ret
    exact ⟨rfl, b8⟩

theorem law_FnTextYears (y m d h mi s ns : Int) (name : List UInt8) (off : Int) (year : Int) (hl : name.length ≤ 9223372036854775807) (ho : -9223372036854775808 ≤ off ∧ off ≤ 9223372036854775807) (w : World) (E : HStd w) :
    Calls Tryd.prog 5 #[civilV y m d h mi s ns name off, .int .i64 year] w fun e w' => e = .returned (.bool true) ∧ Below w.heap.size w w' := by
  have hz := fun w => zzFits3_any y m d h mi s ns name off w
  generalize hfit : decide (name.length ≤ 2147483647) = fit at hz
  have b0 := (Below.refl w.heap.size w).alloc (Nat.le_refl _) (Obj.cells #[.int .i64 y, .int .i64 m, .int .i64 d, .int .i64 h, .int .i64 mi, .int .i64 s, .int .i64 ns, .string ⟨name.toArray⟩, .int .i64 off] 27)
  cases fit
  · have HZ := hide hz
    clear hz hfit
    unfold civilV at *
    go_enter Tryd.func5, Tryd.ntmps5
    go_wp2_with fail
    refine (HZ.out _).mono ?_
    rintro e w1 ⟨rfl, hq⟩
    go_wp2_with fail
    go_ret
    exact ⟨rfl, b0.trans (hq.mono (by simp))⟩
  · have hl2 : name.length ≤ 2147483647 := by simpa using hfit
    have hk := fun w => civilOk_any y m d h mi s ns name (by omega) off w
    generalize hok : Fs.civilOk y m d h mi s ns name off = ok at hk
    cases ok
    · have HZ := hide hz
      have HK := hide hk
      clear hz hk hfit hok
      have C0 := CCell.new w y m d h mi s ns name off
      have HC0 := hide C0
      clear C0
      unfold civilV at *
      go_enter Tryd.func5, Tryd.ntmps5
      go_wp2_with fail
      refine (HZ.out _).mono ?_
      rintro e w1 ⟨rfl, hq⟩
      have b1 := b0.trans (hq.mono (by simp))
      have hs1 := b1.size
      obtain ⟨c0, c1, c2, c3, c4, c5, c6, c7, c8⟩ := HC0.out.below hq
      clear hq b0 HC0
      go_wp2_with fail
      refine (HK.out _).mono ?_
      rintro e w2 ⟨rfl, hq⟩
      clear c0 c1 c2 c3 c4 c5 c6 c7 c8
      go_wp2_with fail
      go_ret
      exact ⟨rfl, b1.trans (hq.mono hs1)⟩
    · obtain ⟨Y, M, D, Hh, Mi, S, Ns, CF⟩ := civF hok
      obtain ⟨rfl, rfl, rfl, rfl, rfl, rfl, rfl⟩ := CF.eqs
      exact told_FnTextYears CF year w E
end Go.Proofs.YtgcjhakhepgjlaaDoor
