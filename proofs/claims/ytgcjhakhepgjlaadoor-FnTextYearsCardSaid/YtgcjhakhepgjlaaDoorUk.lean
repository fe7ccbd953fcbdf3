/-
  WALKS, times, part u: appendFormatRFC3339 (printed by wip/py/gen_rfc.py).
-/
import Derived.Test.YtgcjhakhepgjlaaDoorU4
namespace Go.Proofs.YtgcjhakhepgjlaaDoor
open Go.RowKit
set_option linter.unusedVariables false
set_option linter.unusedSimpArgs false
attribute [local go_sem] ByteArray.extract_mk get_mk ByteArray.toList_mk ByteArray.mk_append_mk take_drop_len

namespace Fs
/-- the text of RFC 3339: date and clock; the fraction; the place -/
def rfcD (t : Tm) : Bs := dg 4 t.year ++ [45] ++ dg 2 t.month ++ [45] ++ dg 2 t.day ++ [84] ++ dg 2 t.hour ++ [58] ++ dg 2 t.min ++ [58] ++ dg 2 t.sec
def rfc (t : Tm) (nanos : Bool) : Bs := rfcD t ++ (if nanos then nanoT true 9 46 t.nano else []) ++ (if t.off = 0 then [90] else offs t.off true false true)
def rfcL : Bs := [50, 48, 48, 54, 45, 48, 49, 45, 48, 50, 84, 49, 53, 58, 48, 52, 58, 48, 53, 90, 48, 55, 58, 48, 48]
def rfcN : Bs := [50, 48, 48, 54, 45, 48, 49, 45, 48, 50, 84, 49, 53, 58, 48, 52, 58, 48, 53, 46, 57, 57, 57, 57, 57, 57, 57, 57, 57, 90, 48, 55, 58, 48, 48]
def pk (k : Int) : Piece := ⟨k, [], 0, false⟩
def pt (s : Bs) : Piece := ⟨0, s, 0, false⟩
def rfcP : List Piece := [pk 1, pt [45], pk 5, pt [45], pk 11, pt [84], pk 14, pt [58], pk 18, pt [58], pk 20, pk 28]
def rfcPN : List Piece := [pk 1, pt [45], pk 5, pt [45], pk 11, pt [84], pk 14, pt [58], pk 18, pt [58], pk 20, ⟨34, [], 9, false⟩, pk 28]
theorem fmt_rfc (t : Tm) : fmt t rfcL = rfc t false := by
  have h := fmt_of t (ps := rfcP) (by decide)
  have hl : layout rfcP = rfcL := by decide
  rw [hl] at h
  rw [h]
  simp only [written, rfcP, List.flatMap_cons, List.flatMap_nil, wr, pk, pt]
  simp [codeOf, elem, rfc, rfcD]
theorem fmt_rfcN (t : Tm) : fmt t rfcN = rfc t true := by
  have h := fmt_of t (ps := rfcPN) (by decide)
  have hl : layout rfcPN = rfcN := by decide
  rw [hl] at h
  rw [h]
  have hf : elem t (frac 35 9 46) = nanoT true 9 46 t.nano := frac_elem t 35 (.inr rfl) 9 (by omega) 46 (.inl rfl)
  simp only [written, rfcPN, List.flatMap_cons, List.flatMap_nil, wr, pk, pt]
  have hc : codeOf ⟨34, [], 9, false⟩ = frac 35 9 46 := by decide
  simp only [hc, hf]
  simp [codeOf, elem, rfc, rfcD]
end Fs

theorem frac_9 : Fs.frac 35 9 46 = 589859 := by decide
set_option maxRecDepth 100000 in
set_option maxHeartbeats 4000000 in
theorem rfc_o_z {t : Fs.Tm} (TD : TmD t) (h0 : t.off = 0) (l0 : List UInt8) (hl0 : l0.length ≤ 10000000000) (tv v0 : Value) (base : Nat) (w : World) (HT : Told w tv t.year t.month t.day t.hour t.min t.sec t.nano t.name t.off) (hr : Row w base v0 l0) (hb : base ≤ w.heap.size)
    (hv : ∀ g, v0.ownBlock = some g → g < w.heap.size) :
    Calls Tryd.prog 57 #[tv, v0, .bool false] w fun e w' => ∃ v', e = .returned v' ∧ Row w' base v' (l0 ++ Fs.rfc t false) ∧ Gr w w' v0 v' := by
  have HE : Hid ((l0 ++ Fs.rfc t false) = l0 ++ Fs.dg 4 t.year ++ [45] ++ Fs.dg 2 t.month ++ [45] ++ Fs.dg 2 t.day ++ [84] ++ Fs.dg 2 t.hour ++ [58] ++ Fs.dg 2 t.min ++ [58] ++ Fs.dg 2 t.sec ++ [90]) := by
    show _ = _
    unfold Fs.rfc
    rw [if_pos h0]
    simp [Fs.rfcD, Nat.div_div_eq_div_mul]
  rw [HE.out]
  obtain ⟨i0, hi, hz0, hz1, hz2⟩ := info_parts info_u8
  obtain ⟨⟨lv, rfl, hTL⟩, hd, hc, o1, o2⟩ := HT
  obtain ⟨q, rfl⟩ := hTL.ptr
  unfold timeV
  obtain ⟨ext, hext⟩ : ∃ ext, ext = Fs.isecs (t.year : Int) t.month t.day t.hour t.min t.sec - t.off := ⟨_, rfl⟩
  have hb1 : Below w.heap.size w (w.alloc (.cells #[.int .u64 (t.nano : Nat), .int .i64 ext, .pointer q] 41)) := (Below.refl _ _).alloc (Nat.le_refl _) _
  have HT1 : Told (w.alloc (.cells #[.int .u64 (t.nano : Nat), .int .i64 ext, .pointer q] 41)) (timeV t.nano ext (.pointer q)) t.year t.month t.day t.hour t.min t.sec t.nano t.name t.off :=
    ⟨⟨.pointer q, by rw [hext], hTL.below hb1⟩, hd, hc, o1, o2⟩
  have hlc := locabs_told HT1
  have TC := TCell.new w t.nano ext (.pointer q) 41
  have hday := fun w => absN_day hd hc w
  have hdate := fun w => date_any hd w
  have hclk := fun w => absN_clock hd hc w
  have htb : v0.ownBlock ≠ some w.heap.size := fun e => absurd (hv _ e) (by omega)
  have hr1 := hr.below hb1
  have hbb := hb1.size
  unfold timeV at hlc
  rw [← hext]
  obtain ⟨y1, m1, m2, dd, yd, wd, hh, mm, ss, nn, nl, p1, p2, p3⟩ := TD.ok
  rw [h0] at hlc
  clear HT1 hTL hr h0 p1 p2 p3 o1 o2 nl TD
  have HLC := hide hlc
  have HTC := hide TC
  have HDY := hide hday
  have HDT := hide hdate
  have HCK := hide hclk
  have HB1 := hide hb1
  have HR := hide hr1
  clear hlc TC hday hb1 hr1 hext hd hc hdate hclk
  go_enter Tryd.func57, Tryd.ntmps57
  go_wp2_with fail
  refine HLC.out.mono ?_
  rintro e w2 ⟨rfl, hb2⟩
  have HB2 := hide (HB1.out.trans (hb2.mono hbb))
  have HTC2 := hide (HTC.out.below hb2)
  have HR2 := hide (HR.out.below hb2)
  clear HB1 HTC HR hb2 HLC
  go_wp2_with fail
  refine (HDY.out _).mono ?_
  rintro e w3 ⟨rfl, hq⟩
  have HB3 := hide (HB2.out.trans (hq.below _))
  have HTC3 := hide (HTC2.out.qt hq)
  have HR3 := hide (HR2.out.below (hq.below _))
  clear HB2 HTC2 HR2 hq HDY
  go_wp2_with fail
  refine (HDT.out _).mono ?_
  rintro e w4 ⟨rfl, hq⟩
  have hB4 := HB3.out.trans (hq.below _)
  have HTC4 := hide (HTC3.out.qt hq)
  have hr4 := HR3.out.below (hq.below _)
  have g4 : Gr w4 w4 v0 v0 := Gr.refl _ _
  have hs4 : base ≤ w4.heap.size := Nat.le_trans hb hB4.size
  have HB4 := hide hB4
  clear HB3 HTC3 HR3 hq HDT hB4
  clear HE
  have k4 : (Fs.dg 4 t.year).length ≤ 9 := Fs.dg_le (by omega) (by omega)
  have km : (Fs.dg 2 t.month).length ≤ 9 := Fs.dg_le (by omega) (by omega)
  have kd : (Fs.dg 2 t.day).length ≤ 9 := Fs.dg_le (by omega) (by omega)
  have kh : (Fs.dg 2 t.hour).length ≤ 9 := Fs.dg_le (by omega) (by omega)
  have kn : (Fs.dg 2 t.min).length ≤ 9 := Fs.dg_le (by omega) (by omega)
  have ks : (Fs.dg 2 t.sec).length ≤ 9 := Fs.dg_le (by omega) (by omega)
  have kf : (Fs.nanoT (589859 % 65536 == 35) (589859 / 65536 % 4096) 46 t.nano).length ≤ 1000 := Fs.nanoT_le nn
  go_wp2_with fail
  refine (appendInt_any (t.year) 4 (by omega) (by omega) (by intro; omega) w4 hr4 hs4 (by first | omega | (simp only [List.length_append, List.length_cons, List.length_nil]; omega))).mono ?_
  rintro e w5 ⟨v5, rfl, hr5, hg5⟩
  have g5 := g4.trans hg5
  have hs5 : base ≤ w5.heap.size := Nat.le_trans hs4 g5.grown.size
  clear hg5
  go_wp2_with (at_builtin; refine wpList_append_gr _ rfl (.tmp 34) (.tmp 35) 47 rfl 5 i0 (.int .u8 0) Tryd.underlying47 hi hz0 hz1 hz2 rfl rfl (hr5.alloc _) (by simp; omega) ⟨w5.heap.size, 0, none⟩ 1 1 [45] rfl rfl (news_new w5 _ _ _ _ (row1 rfl)) (by first | omega | (simp only [List.length_append, List.length_cons, List.length_nil]; omega)) ?_; intro v6 w6 hr6 hg6)
  have g6 := (g5.alloc (Obj.cells #[.int .u8 45] 5)).trans hg6
  have hs6 : base ≤ w6.heap.size := Nat.le_trans hs4 g6.grown.size
  clear hg6
  refine (appendInt_any (t.month) 2 (by omega) (by omega) (by intro; omega) w6 hr6 hs6 (by first | omega | (simp only [List.length_append, List.length_cons, List.length_nil]; omega))).mono ?_
  rintro e w7 ⟨v7, rfl, hr7, hg7⟩
  have g7 := g6.trans hg7
  have hs7 : base ≤ w7.heap.size := Nat.le_trans hs4 g7.grown.size
  clear hg7
  go_wp2_with (at_builtin; refine wpList_append_gr _ rfl (.tmp 40) (.tmp 41) 47 rfl 5 i0 (.int .u8 0) Tryd.underlying47 hi hz0 hz1 hz2 rfl rfl (hr7.alloc _) (by simp; omega) ⟨w7.heap.size, 0, none⟩ 1 1 [45] rfl rfl (news_new w7 _ _ _ _ (row1 rfl)) (by first | omega | (simp only [List.length_append, List.length_cons, List.length_nil]; omega)) ?_; intro v8 w8 hr8 hg8)
  have g8 := (g7.alloc (Obj.cells #[.int .u8 45] 5)).trans hg8
  have hs8 : base ≤ w8.heap.size := Nat.le_trans hs4 g8.grown.size
  clear hg8
  refine (appendInt_any (t.day) 2 (by omega) (by omega) (by intro; omega) w8 hr8 hs8 (by first | omega | (simp only [List.length_append, List.length_cons, List.length_nil]; omega))).mono ?_
  rintro e w9 ⟨v9, rfl, hr9, hg9⟩
  have g9 := g8.trans hg9
  have hs9 : base ≤ w9.heap.size := Nat.le_trans hs4 g9.grown.size
  clear hg9
  go_wp2_with (at_builtin; refine wpList_append_gr _ rfl (.tmp 46) (.tmp 47) 47 rfl 5 i0 (.int .u8 0) Tryd.underlying47 hi hz0 hz1 hz2 rfl rfl (hr9.alloc _) (by simp; omega) ⟨w9.heap.size, 0, none⟩ 1 1 [84] rfl rfl (news_new w9 _ _ _ _ (row1 rfl)) (by first | omega | (simp only [List.length_append, List.length_cons, List.length_nil]; omega)) ?_; intro v10 w10 hr10 hg10)
  have g10 := (g9.alloc (Obj.cells #[.int .u8 84] 5)).trans hg10
  have hs10 : base ≤ w10.heap.size := Nat.le_trans hs4 g10.grown.size
  clear hg10
  refine (HCK.out _).mono ?_
  rintro e w11 ⟨rfl, hq⟩
  have hr11 := hr10.below (hq.below _)
  have g11 := g10.then_below (hq.below _)
  have hs11 : base ≤ w11.heap.size := Nat.le_trans hs4 g11.grown.size
  clear hq HCK
  go_wp2_with fail
  refine (appendInt_any (t.hour) 2 (by omega) (by omega) (by intro; omega) w11 hr11 hs11 (by first | omega | (simp only [List.length_append, List.length_cons, List.length_nil]; omega))).mono ?_
  rintro e w12 ⟨v12, rfl, hr12, hg12⟩
  have g12 := g11.trans hg12
  have hs12 : base ≤ w12.heap.size := Nat.le_trans hs4 g12.grown.size
  clear hg12
  go_wp2_with (at_builtin; refine wpList_append_gr _ rfl (.tmp 58) (.tmp 59) 47 rfl 5 i0 (.int .u8 0) Tryd.underlying47 hi hz0 hz1 hz2 rfl rfl (hr12.alloc _) (by simp; omega) ⟨w12.heap.size, 0, none⟩ 1 1 [58] rfl rfl (news_new w12 _ _ _ _ (row1 rfl)) (by first | omega | (simp only [List.length_append, List.length_cons, List.length_nil]; omega)) ?_; intro v13 w13 hr13 hg13)
  have g13 := (g12.alloc (Obj.cells #[.int .u8 58] 5)).trans hg13
  have hs13 : base ≤ w13.heap.size := Nat.le_trans hs4 g13.grown.size
  clear hg13
  refine (appendInt_any (t.min) 2 (by omega) (by omega) (by intro; omega) w13 hr13 hs13 (by first | omega | (simp only [List.length_append, List.length_cons, List.length_nil]; omega))).mono ?_
  rintro e w14 ⟨v14, rfl, hr14, hg14⟩
  have g14 := g13.trans hg14
  have hs14 : base ≤ w14.heap.size := Nat.le_trans hs4 g14.grown.size
  clear hg14
  go_wp2_with (at_builtin; refine wpList_append_gr _ rfl (.tmp 64) (.tmp 65) 47 rfl 5 i0 (.int .u8 0) Tryd.underlying47 hi hz0 hz1 hz2 rfl rfl (hr14.alloc _) (by simp; omega) ⟨w14.heap.size, 0, none⟩ 1 1 [58] rfl rfl (news_new w14 _ _ _ _ (row1 rfl)) (by first | omega | (simp only [List.length_append, List.length_cons, List.length_nil]; omega)) ?_; intro v15 w15 hr15 hg15)
  have g15 := (g14.alloc (Obj.cells #[.int .u8 58] 5)).trans hg15
  have hs15 : base ≤ w15.heap.size := Nat.le_trans hs4 g15.grown.size
  clear hg15
  refine (appendInt_any (t.sec) 2 (by omega) (by omega) (by intro; omega) w15 hr15 hs15 (by first | omega | (simp only [List.length_append, List.length_cons, List.length_nil]; omega))).mono ?_
  rintro e w16 ⟨v16, rfl, hr16, hg16⟩
  have g16 := g15.trans hg16
  have hs16 : base ≤ w16.heap.size := Nat.le_trans hs4 g16.grown.size
  clear hg16
  go_wp2_with (at_builtin; refine wpList_append_gr _ rfl (.tmp 79) (.tmp 80) 47 rfl 5 i0 (.int .u8 0) Tryd.underlying47 hi hz0 hz1 hz2 rfl rfl (hr16.alloc _) (by simp; omega) ⟨w16.heap.size, 0, none⟩ 1 1 [90] rfl rfl (news_new w16 _ _ _ _ (row1 rfl)) (by first | omega | (simp only [List.length_append, List.length_cons, List.length_nil]; omega)) ?_; intro v17 w17 hr17 hg17)
  have g17 := (g16.alloc (Obj.cells #[.int .u8 90] 5)).trans hg17
  have hs17 : base ≤ w17.heap.size := Nat.le_trans hs4 g17.grown.size
  clear hg17
  go_ret
  exact ⟨v17, rfl, hr17, (Gr.of_below HB4.out v0).trans g17⟩

set_option maxRecDepth 100000 in
set_option maxHeartbeats 4000000 in
theorem rfc_o_p {t : Fs.Tm} (TD : TmD t) (A : Nat) (hA : 0 < A) (h0 : t.off = (A : Int)) (l0 : List UInt8) (hl0 : l0.length ≤ 10000000000) (tv v0 : Value) (base : Nat) (w : World) (HT : Told w tv t.year t.month t.day t.hour t.min t.sec t.nano t.name t.off) (hr : Row w base v0 l0) (hb : base ≤ w.heap.size)
    (hv : ∀ g, v0.ownBlock = some g → g < w.heap.size) :
    Calls Tryd.prog 57 #[tv, v0, .bool false] w fun e w' => ∃ v', e = .returned v' ∧ Row w' base v' (l0 ++ Fs.rfc t false) ∧ Gr w w' v0 v' := by
  have HE : Hid ((l0 ++ Fs.rfc t false) = l0 ++ Fs.dg 4 t.year ++ [45] ++ Fs.dg 2 t.month ++ [45] ++ Fs.dg 2 t.day ++ [84] ++ Fs.dg 2 t.hour ++ [58] ++ Fs.dg 2 t.min ++ [58] ++ Fs.dg 2 t.sec ++ [43] ++ Fs.dg 2 (A / 60 / 60) ++ [58] ++ Fs.dg 2 (A / 60 % 60)) := by
    show _ = _
    unfold Fs.rfc
    rw [if_neg (show ¬ t.off = 0 by omega)]
    have hab : t.off.natAbs = A := by omega
    have hn : ¬ t.off < 0 := by omega
    unfold Fs.offs
    rw [if_neg hn, hab]
    simp [Fs.rfcD, Nat.div_div_eq_div_mul]
  rw [HE.out]
  obtain ⟨i0, hi, hz0, hz1, hz2⟩ := info_parts info_u8
  obtain ⟨⟨lv, rfl, hTL⟩, hd, hc, o1, o2⟩ := HT
  obtain ⟨q, rfl⟩ := hTL.ptr
  unfold timeV
  obtain ⟨ext, hext⟩ : ∃ ext, ext = Fs.isecs (t.year : Int) t.month t.day t.hour t.min t.sec - t.off := ⟨_, rfl⟩
  have hb1 : Below w.heap.size w (w.alloc (.cells #[.int .u64 (t.nano : Nat), .int .i64 ext, .pointer q] 41)) := (Below.refl _ _).alloc (Nat.le_refl _) _
  have HT1 : Told (w.alloc (.cells #[.int .u64 (t.nano : Nat), .int .i64 ext, .pointer q] 41)) (timeV t.nano ext (.pointer q)) t.year t.month t.day t.hour t.min t.sec t.nano t.name t.off :=
    ⟨⟨.pointer q, by rw [hext], hTL.below hb1⟩, hd, hc, o1, o2⟩
  have hlc := locabs_told HT1
  have TC := TCell.new w t.nano ext (.pointer q) 41
  have hday := fun w => absN_day hd hc w
  have hdate := fun w => date_any hd w
  have hclk := fun w => absN_clock hd hc w
  have htb : v0.ownBlock ≠ some w.heap.size := fun e => absurd (hv _ e) (by omega)
  have hr1 := hr.below hb1
  have hbb := hb1.size
  unfold timeV at hlc
  rw [← hext]
  obtain ⟨y1, m1, m2, dd, yd, wd, hh, mm, ss, nn, nl, p1, p2, p3⟩ := TD.ok
  rw [h0] at hlc
  have hA2 : A ≤ 100000 := by omega
  have e0 : ((A : Int) == 0) = false := by rw [beq_eq_false_iff_ne]; omega
  clear HT1 hTL hr h0 p1 p2 p3 o1 o2 nl TD
  have HLC := hide hlc
  have HTC := hide TC
  have HDY := hide hday
  have HDT := hide hdate
  have HCK := hide hclk
  have HB1 := hide hb1
  have HR := hide hr1
  clear hlc TC hday hb1 hr1 hext hd hc hdate hclk
  go_enter Tryd.func57, Tryd.ntmps57
  go_wp2_with fail
  refine HLC.out.mono ?_
  rintro e w2 ⟨rfl, hb2⟩
  have HB2 := hide (HB1.out.trans (hb2.mono hbb))
  have HTC2 := hide (HTC.out.below hb2)
  have HR2 := hide (HR.out.below hb2)
  clear HB1 HTC HR hb2 HLC
  go_wp2_with fail
  refine (HDY.out _).mono ?_
  rintro e w3 ⟨rfl, hq⟩
  have HB3 := hide (HB2.out.trans (hq.below _))
  have HTC3 := hide (HTC2.out.qt hq)
  have HR3 := hide (HR2.out.below (hq.below _))
  clear HB2 HTC2 HR2 hq HDY
  go_wp2_with fail
  refine (HDT.out _).mono ?_
  rintro e w4 ⟨rfl, hq⟩
  have hB4 := HB3.out.trans (hq.below _)
  have HTC4 := hide (HTC3.out.qt hq)
  have hr4 := HR3.out.below (hq.below _)
  have g4 : Gr w4 w4 v0 v0 := Gr.refl _ _
  have hs4 : base ≤ w4.heap.size := Nat.le_trans hb hB4.size
  have HB4 := hide hB4
  clear HB3 HTC3 HR3 hq HDT hB4
  clear HE
  have k4 : (Fs.dg 4 t.year).length ≤ 9 := Fs.dg_le (by omega) (by omega)
  have km : (Fs.dg 2 t.month).length ≤ 9 := Fs.dg_le (by omega) (by omega)
  have kd : (Fs.dg 2 t.day).length ≤ 9 := Fs.dg_le (by omega) (by omega)
  have kh : (Fs.dg 2 t.hour).length ≤ 9 := Fs.dg_le (by omega) (by omega)
  have kn : (Fs.dg 2 t.min).length ≤ 9 := Fs.dg_le (by omega) (by omega)
  have ks : (Fs.dg 2 t.sec).length ≤ 9 := Fs.dg_le (by omega) (by omega)
  have kf : (Fs.nanoT (589859 % 65536 == 35) (589859 / 65536 % 4096) 46 t.nano).length ≤ 1000 := Fs.nanoT_le nn
  have ko : (Fs.dg 2 (A / 60 / 60)).length ≤ 9 := Fs.dg_le (by omega) (by omega)
  have kp : (Fs.dg 2 (A / 60 % 60)).length ≤ 9 := Fs.dg_le (by omega) (by omega)
  go_wp2_with fail
  refine (appendInt_any (t.year) 4 (by omega) (by omega) (by intro; omega) w4 hr4 hs4 (by first | omega | (simp only [List.length_append, List.length_cons, List.length_nil]; omega))).mono ?_
  rintro e w5 ⟨v5, rfl, hr5, hg5⟩
  have g5 := g4.trans hg5
  have hs5 : base ≤ w5.heap.size := Nat.le_trans hs4 g5.grown.size
  clear hg5
  go_wp2_with (at_builtin; refine wpList_append_gr _ rfl (.tmp 34) (.tmp 35) 47 rfl 5 i0 (.int .u8 0) Tryd.underlying47 hi hz0 hz1 hz2 rfl rfl (hr5.alloc _) (by simp; omega) ⟨w5.heap.size, 0, none⟩ 1 1 [45] rfl rfl (news_new w5 _ _ _ _ (row1 rfl)) (by first | omega | (simp only [List.length_append, List.length_cons, List.length_nil]; omega)) ?_; intro v6 w6 hr6 hg6)
  have g6 := (g5.alloc (Obj.cells #[.int .u8 45] 5)).trans hg6
  have hs6 : base ≤ w6.heap.size := Nat.le_trans hs4 g6.grown.size
  clear hg6
  refine (appendInt_any (t.month) 2 (by omega) (by omega) (by intro; omega) w6 hr6 hs6 (by first | omega | (simp only [List.length_append, List.length_cons, List.length_nil]; omega))).mono ?_
  rintro e w7 ⟨v7, rfl, hr7, hg7⟩
  have g7 := g6.trans hg7
  have hs7 : base ≤ w7.heap.size := Nat.le_trans hs4 g7.grown.size
  clear hg7
  go_wp2_with (at_builtin; refine wpList_append_gr _ rfl (.tmp 40) (.tmp 41) 47 rfl 5 i0 (.int .u8 0) Tryd.underlying47 hi hz0 hz1 hz2 rfl rfl (hr7.alloc _) (by simp; omega) ⟨w7.heap.size, 0, none⟩ 1 1 [45] rfl rfl (news_new w7 _ _ _ _ (row1 rfl)) (by first | omega | (simp only [List.length_append, List.length_cons, List.length_nil]; omega)) ?_; intro v8 w8 hr8 hg8)
  have g8 := (g7.alloc (Obj.cells #[.int .u8 45] 5)).trans hg8
  have hs8 : base ≤ w8.heap.size := Nat.le_trans hs4 g8.grown.size
  clear hg8
  refine (appendInt_any (t.day) 2 (by omega) (by omega) (by intro; omega) w8 hr8 hs8 (by first | omega | (simp only [List.length_append, List.length_cons, List.length_nil]; omega))).mono ?_
  rintro e w9 ⟨v9, rfl, hr9, hg9⟩
  have g9 := g8.trans hg9
  have hs9 : base ≤ w9.heap.size := Nat.le_trans hs4 g9.grown.size
  clear hg9
  go_wp2_with (at_builtin; refine wpList_append_gr _ rfl (.tmp 46) (.tmp 47) 47 rfl 5 i0 (.int .u8 0) Tryd.underlying47 hi hz0 hz1 hz2 rfl rfl (hr9.alloc _) (by simp; omega) ⟨w9.heap.size, 0, none⟩ 1 1 [84] rfl rfl (news_new w9 _ _ _ _ (row1 rfl)) (by first | omega | (simp only [List.length_append, List.length_cons, List.length_nil]; omega)) ?_; intro v10 w10 hr10 hg10)
  have g10 := (g9.alloc (Obj.cells #[.int .u8 84] 5)).trans hg10
  have hs10 : base ≤ w10.heap.size := Nat.le_trans hs4 g10.grown.size
  clear hg10
  refine (HCK.out _).mono ?_
  rintro e w11 ⟨rfl, hq⟩
  have hr11 := hr10.below (hq.below _)
  have g11 := g10.then_below (hq.below _)
  have hs11 : base ≤ w11.heap.size := Nat.le_trans hs4 g11.grown.size
  clear hq HCK
  go_wp2_with fail
  refine (appendInt_any (t.hour) 2 (by omega) (by omega) (by intro; omega) w11 hr11 hs11 (by first | omega | (simp only [List.length_append, List.length_cons, List.length_nil]; omega))).mono ?_
  rintro e w12 ⟨v12, rfl, hr12, hg12⟩
  have g12 := g11.trans hg12
  have hs12 : base ≤ w12.heap.size := Nat.le_trans hs4 g12.grown.size
  clear hg12
  go_wp2_with (at_builtin; refine wpList_append_gr _ rfl (.tmp 58) (.tmp 59) 47 rfl 5 i0 (.int .u8 0) Tryd.underlying47 hi hz0 hz1 hz2 rfl rfl (hr12.alloc _) (by simp; omega) ⟨w12.heap.size, 0, none⟩ 1 1 [58] rfl rfl (news_new w12 _ _ _ _ (row1 rfl)) (by first | omega | (simp only [List.length_append, List.length_cons, List.length_nil]; omega)) ?_; intro v13 w13 hr13 hg13)
  have g13 := (g12.alloc (Obj.cells #[.int .u8 58] 5)).trans hg13
  have hs13 : base ≤ w13.heap.size := Nat.le_trans hs4 g13.grown.size
  clear hg13
  refine (appendInt_any (t.min) 2 (by omega) (by omega) (by intro; omega) w13 hr13 hs13 (by first | omega | (simp only [List.length_append, List.length_cons, List.length_nil]; omega))).mono ?_
  rintro e w14 ⟨v14, rfl, hr14, hg14⟩
  have g14 := g13.trans hg14
  have hs14 : base ≤ w14.heap.size := Nat.le_trans hs4 g14.grown.size
  clear hg14
  go_wp2_with (at_builtin; refine wpList_append_gr _ rfl (.tmp 64) (.tmp 65) 47 rfl 5 i0 (.int .u8 0) Tryd.underlying47 hi hz0 hz1 hz2 rfl rfl (hr14.alloc _) (by simp; omega) ⟨w14.heap.size, 0, none⟩ 1 1 [58] rfl rfl (news_new w14 _ _ _ _ (row1 rfl)) (by first | omega | (simp only [List.length_append, List.length_cons, List.length_nil]; omega)) ?_; intro v15 w15 hr15 hg15)
  have g15 := (g14.alloc (Obj.cells #[.int .u8 58] 5)).trans hg15
  have hs15 : base ≤ w15.heap.size := Nat.le_trans hs4 g15.grown.size
  clear hg15
  refine (appendInt_any (t.sec) 2 (by omega) (by omega) (by intro; omega) w15 hr15 hs15 (by first | omega | (simp only [List.length_append, List.length_cons, List.length_nil]; omega))).mono ?_
  rintro e w16 ⟨v16, rfl, hr16, hg16⟩
  have g16 := g15.trans hg16
  have hs16 : base ≤ w16.heap.size := Nat.le_trans hs4 g16.grown.size
  clear hg16
  go_wp2_with (at_builtin; refine wpList_append_gr _ rfl (.tmp 91) (.tmp 92) 47 rfl 5 i0 (.int .u8 0) Tryd.underlying47 hi hz0 hz1 hz2 rfl rfl (hr16.alloc _) (by simp; omega) ⟨w16.heap.size, 0, none⟩ 1 1 [43] rfl rfl (news_new w16 _ _ _ _ (row1 rfl)) (by first | omega | (simp only [List.length_append, List.length_cons, List.length_nil]; omega)) ?_; intro v17 w17 hr17 hg17)
  have g17 := (g16.alloc (Obj.cells #[.int .u8 43] 5)).trans hg17
  have hs17 : base ≤ w17.heap.size := Nat.le_trans hs4 g17.grown.size
  clear hg17
  refine (appendInt_any (A / 60 / 60) 2 (by omega) (by omega) (by intro; omega) w17 hr17 hs17 (by first | omega | (simp only [List.length_append, List.length_cons, List.length_nil]; omega))).mono ?_
  rintro e w18 ⟨v18, rfl, hr18, hg18⟩
  have g18 := g17.trans hg18
  have hs18 : base ≤ w18.heap.size := Nat.le_trans hs4 g18.grown.size
  clear hg18
  go_wp2_with (at_builtin; refine wpList_append_gr _ rfl (.tmp 98) (.tmp 99) 47 rfl 5 i0 (.int .u8 0) Tryd.underlying47 hi hz0 hz1 hz2 rfl rfl (hr18.alloc _) (by simp; omega) ⟨w18.heap.size, 0, none⟩ 1 1 [58] rfl rfl (news_new w18 _ _ _ _ (row1 rfl)) (by first | omega | (simp only [List.length_append, List.length_cons, List.length_nil]; omega)) ?_; intro v19 w19 hr19 hg19)
  have g19 := (g18.alloc (Obj.cells #[.int .u8 58] 5)).trans hg19
  have hs19 : base ≤ w19.heap.size := Nat.le_trans hs4 g19.grown.size
  clear hg19
  refine (appendInt_any (A / 60 % 60) 2 (by omega) (by omega) (by intro; omega) w19 hr19 hs19 (by first | omega | (simp only [List.length_append, List.length_cons, List.length_nil]; omega))).mono ?_
  rintro e w20 ⟨v20, rfl, hr20, hg20⟩
  have g20 := g19.trans hg20
  have hs20 : base ≤ w20.heap.size := Nat.le_trans hs4 g20.grown.size
  clear hg20
  go_wp2_with fail
  go_ret
  exact ⟨v20, rfl, hr20, (Gr.of_below HB4.out v0).trans g20⟩

set_option maxRecDepth 100000 in
set_option maxHeartbeats 4000000 in
theorem rfc_o_n {t : Fs.Tm} (TD : TmD t) (A : Nat) (hA : 60 ≤ A) (h0 : t.off = -(A : Int)) (l0 : List UInt8) (hl0 : l0.length ≤ 10000000000) (tv v0 : Value) (base : Nat) (w : World) (HT : Told w tv t.year t.month t.day t.hour t.min t.sec t.nano t.name t.off) (hr : Row w base v0 l0) (hb : base ≤ w.heap.size)
    (hv : ∀ g, v0.ownBlock = some g → g < w.heap.size) :
    Calls Tryd.prog 57 #[tv, v0, .bool false] w fun e w' => ∃ v', e = .returned v' ∧ Row w' base v' (l0 ++ Fs.rfc t false) ∧ Gr w w' v0 v' := by
  have HE : Hid ((l0 ++ Fs.rfc t false) = l0 ++ Fs.dg 4 t.year ++ [45] ++ Fs.dg 2 t.month ++ [45] ++ Fs.dg 2 t.day ++ [84] ++ Fs.dg 2 t.hour ++ [58] ++ Fs.dg 2 t.min ++ [58] ++ Fs.dg 2 t.sec ++ [45] ++ Fs.dg 2 (A / 60 / 60) ++ [58] ++ Fs.dg 2 (A / 60 % 60)) := by
    show _ = _
    unfold Fs.rfc
    rw [if_neg (show ¬ t.off = 0 by omega)]
    have hab : t.off.natAbs = A := by omega
    have hn : t.off < 0 := by omega
    unfold Fs.offs
    rw [if_pos hn, hab]
    simp [Fs.rfcD, Nat.div_div_eq_div_mul]
  rw [HE.out]
  obtain ⟨i0, hi, hz0, hz1, hz2⟩ := info_parts info_u8
  obtain ⟨⟨lv, rfl, hTL⟩, hd, hc, o1, o2⟩ := HT
  obtain ⟨q, rfl⟩ := hTL.ptr
  unfold timeV
  obtain ⟨ext, hext⟩ : ∃ ext, ext = Fs.isecs (t.year : Int) t.month t.day t.hour t.min t.sec - t.off := ⟨_, rfl⟩
  have hb1 : Below w.heap.size w (w.alloc (.cells #[.int .u64 (t.nano : Nat), .int .i64 ext, .pointer q] 41)) := (Below.refl _ _).alloc (Nat.le_refl _) _
  have HT1 : Told (w.alloc (.cells #[.int .u64 (t.nano : Nat), .int .i64 ext, .pointer q] 41)) (timeV t.nano ext (.pointer q)) t.year t.month t.day t.hour t.min t.sec t.nano t.name t.off :=
    ⟨⟨.pointer q, by rw [hext], hTL.below hb1⟩, hd, hc, o1, o2⟩
  have hlc := locabs_told HT1
  have TC := TCell.new w t.nano ext (.pointer q) 41
  have hday := fun w => absN_day hd hc w
  have hdate := fun w => date_any hd w
  have hclk := fun w => absN_clock hd hc w
  have htb : v0.ownBlock ≠ some w.heap.size := fun e => absurd (hv _ e) (by omega)
  have hr1 := hr.below hb1
  have hbb := hb1.size
  unfold timeV at hlc
  rw [← hext]
  obtain ⟨y1, m1, m2, dd, yd, wd, hh, mm, ss, nn, nl, p1, p2, p3⟩ := TD.ok
  rw [h0] at hlc
  have hA2 : A ≤ 100000 := by omega
  have e0 : (-(A : Int) == 0) = false := by rw [beq_eq_false_iff_ne]; omega
  have e1 : ((A : Int) == 0) = false := by rw [beq_eq_false_iff_ne]; omega
  have ez : (0 : Int) < (A : Int) / 60 := by omega
  have ez2 : -((A : Int) / 60) < 0 := by omega
  have et := tdiv_neg (A := A)
  clear HT1 hTL hr h0 p1 p2 p3 o1 o2 nl TD
  have HLC := hide hlc
  have HTC := hide TC
  have HDY := hide hday
  have HDT := hide hdate
  have HCK := hide hclk
  have HB1 := hide hb1
  have HR := hide hr1
  clear hlc TC hday hb1 hr1 hext hd hc hdate hclk
  go_enter Tryd.func57, Tryd.ntmps57
  go_wp2_with fail
  refine HLC.out.mono ?_
  rintro e w2 ⟨rfl, hb2⟩
  have HB2 := hide (HB1.out.trans (hb2.mono hbb))
  have HTC2 := hide (HTC.out.below hb2)
  have HR2 := hide (HR.out.below hb2)
  clear HB1 HTC HR hb2 HLC
  go_wp2_with fail
  refine (HDY.out _).mono ?_
  rintro e w3 ⟨rfl, hq⟩
  have HB3 := hide (HB2.out.trans (hq.below _))
  have HTC3 := hide (HTC2.out.qt hq)
  have HR3 := hide (HR2.out.below (hq.below _))
  clear HB2 HTC2 HR2 hq HDY
  go_wp2_with fail
  refine (HDT.out _).mono ?_
  rintro e w4 ⟨rfl, hq⟩
  have hB4 := HB3.out.trans (hq.below _)
  have HTC4 := hide (HTC3.out.qt hq)
  have hr4 := HR3.out.below (hq.below _)
  have g4 : Gr w4 w4 v0 v0 := Gr.refl _ _
  have hs4 : base ≤ w4.heap.size := Nat.le_trans hb hB4.size
  have HB4 := hide hB4
  clear HB3 HTC3 HR3 hq HDT hB4
  clear HE
  have k4 : (Fs.dg 4 t.year).length ≤ 9 := Fs.dg_le (by omega) (by omega)
  have km : (Fs.dg 2 t.month).length ≤ 9 := Fs.dg_le (by omega) (by omega)
  have kd : (Fs.dg 2 t.day).length ≤ 9 := Fs.dg_le (by omega) (by omega)
  have kh : (Fs.dg 2 t.hour).length ≤ 9 := Fs.dg_le (by omega) (by omega)
  have kn : (Fs.dg 2 t.min).length ≤ 9 := Fs.dg_le (by omega) (by omega)
  have ks : (Fs.dg 2 t.sec).length ≤ 9 := Fs.dg_le (by omega) (by omega)
  have kf : (Fs.nanoT (589859 % 65536 == 35) (589859 / 65536 % 4096) 46 t.nano).length ≤ 1000 := Fs.nanoT_le nn
  have ko : (Fs.dg 2 (A / 60 / 60)).length ≤ 9 := Fs.dg_le (by omega) (by omega)
  have kp : (Fs.dg 2 (A / 60 % 60)).length ≤ 9 := Fs.dg_le (by omega) (by omega)
  go_wp2_with fail
  refine (appendInt_any (t.year) 4 (by omega) (by omega) (by intro; omega) w4 hr4 hs4 (by first | omega | (simp only [List.length_append, List.length_cons, List.length_nil]; omega))).mono ?_
  rintro e w5 ⟨v5, rfl, hr5, hg5⟩
  have g5 := g4.trans hg5
  have hs5 : base ≤ w5.heap.size := Nat.le_trans hs4 g5.grown.size
  clear hg5
  go_wp2_with (at_builtin; refine wpList_append_gr _ rfl (.tmp 34) (.tmp 35) 47 rfl 5 i0 (.int .u8 0) Tryd.underlying47 hi hz0 hz1 hz2 rfl rfl (hr5.alloc _) (by simp; omega) ⟨w5.heap.size, 0, none⟩ 1 1 [45] rfl rfl (news_new w5 _ _ _ _ (row1 rfl)) (by first | omega | (simp only [List.length_append, List.length_cons, List.length_nil]; omega)) ?_; intro v6 w6 hr6 hg6)
  have g6 := (g5.alloc (Obj.cells #[.int .u8 45] 5)).trans hg6
  have hs6 : base ≤ w6.heap.size := Nat.le_trans hs4 g6.grown.size
  clear hg6
  refine (appendInt_any (t.month) 2 (by omega) (by omega) (by intro; omega) w6 hr6 hs6 (by first | omega | (simp only [List.length_append, List.length_cons, List.length_nil]; omega))).mono ?_
  rintro e w7 ⟨v7, rfl, hr7, hg7⟩
  have g7 := g6.trans hg7
  have hs7 : base ≤ w7.heap.size := Nat.le_trans hs4 g7.grown.size
  clear hg7
  go_wp2_with (at_builtin; refine wpList_append_gr _ rfl (.tmp 40) (.tmp 41) 47 rfl 5 i0 (.int .u8 0) Tryd.underlying47 hi hz0 hz1 hz2 rfl rfl (hr7.alloc _) (by simp; omega) ⟨w7.heap.size, 0, none⟩ 1 1 [45] rfl rfl (news_new w7 _ _ _ _ (row1 rfl)) (by first | omega | (simp only [List.length_append, List.length_cons, List.length_nil]; omega)) ?_; intro v8 w8 hr8 hg8)
  have g8 := (g7.alloc (Obj.cells #[.int .u8 45] 5)).trans hg8
  have hs8 : base ≤ w8.heap.size := Nat.le_trans hs4 g8.grown.size
  clear hg8
  refine (appendInt_any (t.day) 2 (by omega) (by omega) (by intro; omega) w8 hr8 hs8 (by first | omega | (simp only [List.length_append, List.length_cons, List.length_nil]; omega))).mono ?_
  rintro e w9 ⟨v9, rfl, hr9, hg9⟩
  have g9 := g8.trans hg9
  have hs9 : base ≤ w9.heap.size := Nat.le_trans hs4 g9.grown.size
  clear hg9
  go_wp2_with (at_builtin; refine wpList_append_gr _ rfl (.tmp 46) (.tmp 47) 47 rfl 5 i0 (.int .u8 0) Tryd.underlying47 hi hz0 hz1 hz2 rfl rfl (hr9.alloc _) (by simp; omega) ⟨w9.heap.size, 0, none⟩ 1 1 [84] rfl rfl (news_new w9 _ _ _ _ (row1 rfl)) (by first | omega | (simp only [List.length_append, List.length_cons, List.length_nil]; omega)) ?_; intro v10 w10 hr10 hg10)
  have g10 := (g9.alloc (Obj.cells #[.int .u8 84] 5)).trans hg10
  have hs10 : base ≤ w10.heap.size := Nat.le_trans hs4 g10.grown.size
  clear hg10
  refine (HCK.out _).mono ?_
  rintro e w11 ⟨rfl, hq⟩
  have hr11 := hr10.below (hq.below _)
  have g11 := g10.then_below (hq.below _)
  have hs11 : base ≤ w11.heap.size := Nat.le_trans hs4 g11.grown.size
  clear hq HCK
  go_wp2_with fail
  refine (appendInt_any (t.hour) 2 (by omega) (by omega) (by intro; omega) w11 hr11 hs11 (by first | omega | (simp only [List.length_append, List.length_cons, List.length_nil]; omega))).mono ?_
  rintro e w12 ⟨v12, rfl, hr12, hg12⟩
  have g12 := g11.trans hg12
  have hs12 : base ≤ w12.heap.size := Nat.le_trans hs4 g12.grown.size
  clear hg12
  go_wp2_with (at_builtin; refine wpList_append_gr _ rfl (.tmp 58) (.tmp 59) 47 rfl 5 i0 (.int .u8 0) Tryd.underlying47 hi hz0 hz1 hz2 rfl rfl (hr12.alloc _) (by simp; omega) ⟨w12.heap.size, 0, none⟩ 1 1 [58] rfl rfl (news_new w12 _ _ _ _ (row1 rfl)) (by first | omega | (simp only [List.length_append, List.length_cons, List.length_nil]; omega)) ?_; intro v13 w13 hr13 hg13)
  have g13 := (g12.alloc (Obj.cells #[.int .u8 58] 5)).trans hg13
  have hs13 : base ≤ w13.heap.size := Nat.le_trans hs4 g13.grown.size
  clear hg13
  refine (appendInt_any (t.min) 2 (by omega) (by omega) (by intro; omega) w13 hr13 hs13 (by first | omega | (simp only [List.length_append, List.length_cons, List.length_nil]; omega))).mono ?_
  rintro e w14 ⟨v14, rfl, hr14, hg14⟩
  have g14 := g13.trans hg14
  have hs14 : base ≤ w14.heap.size := Nat.le_trans hs4 g14.grown.size
  clear hg14
  go_wp2_with (at_builtin; refine wpList_append_gr _ rfl (.tmp 64) (.tmp 65) 47 rfl 5 i0 (.int .u8 0) Tryd.underlying47 hi hz0 hz1 hz2 rfl rfl (hr14.alloc _) (by simp; omega) ⟨w14.heap.size, 0, none⟩ 1 1 [58] rfl rfl (news_new w14 _ _ _ _ (row1 rfl)) (by first | omega | (simp only [List.length_append, List.length_cons, List.length_nil]; omega)) ?_; intro v15 w15 hr15 hg15)
  have g15 := (g14.alloc (Obj.cells #[.int .u8 58] 5)).trans hg15
  have hs15 : base ≤ w15.heap.size := Nat.le_trans hs4 g15.grown.size
  clear hg15
  refine (appendInt_any (t.sec) 2 (by omega) (by omega) (by intro; omega) w15 hr15 hs15 (by first | omega | (simp only [List.length_append, List.length_cons, List.length_nil]; omega))).mono ?_
  rintro e w16 ⟨v16, rfl, hr16, hg16⟩
  have g16 := g15.trans hg16
  have hs16 : base ≤ w16.heap.size := Nat.le_trans hs4 g16.grown.size
  clear hg16
  go_wp2_with (at_builtin; refine wpList_append_gr _ rfl (.tmp 86) (.tmp 87) 47 rfl 5 i0 (.int .u8 0) Tryd.underlying47 hi hz0 hz1 hz2 rfl rfl (hr16.alloc _) (by simp; omega) ⟨w16.heap.size, 0, none⟩ 1 1 [45] rfl rfl (news_new w16 _ _ _ _ (row1 rfl)) (by first | omega | (simp only [List.length_append, List.length_cons, List.length_nil]; omega)) ?_; intro v17 w17 hr17 hg17)
  have g17 := (g16.alloc (Obj.cells #[.int .u8 45] 5)).trans hg17
  have hs17 : base ≤ w17.heap.size := Nat.le_trans hs4 g17.grown.size
  clear hg17
  refine (appendInt_any (A / 60 / 60) 2 (by omega) (by omega) (by intro; omega) w17 hr17 hs17 (by first | omega | (simp only [List.length_append, List.length_cons, List.length_nil]; omega))).mono ?_
  rintro e w18 ⟨v18, rfl, hr18, hg18⟩
  have g18 := g17.trans hg18
  have hs18 : base ≤ w18.heap.size := Nat.le_trans hs4 g18.grown.size
  clear hg18
  go_wp2_with (at_builtin; refine wpList_append_gr _ rfl (.tmp 98) (.tmp 99) 47 rfl 5 i0 (.int .u8 0) Tryd.underlying47 hi hz0 hz1 hz2 rfl rfl (hr18.alloc _) (by simp; omega) ⟨w18.heap.size, 0, none⟩ 1 1 [58] rfl rfl (news_new w18 _ _ _ _ (row1 rfl)) (by first | omega | (simp only [List.length_append, List.length_cons, List.length_nil]; omega)) ?_; intro v19 w19 hr19 hg19)
  have g19 := (g18.alloc (Obj.cells #[.int .u8 58] 5)).trans hg19
  have hs19 : base ≤ w19.heap.size := Nat.le_trans hs4 g19.grown.size
  clear hg19
  refine (appendInt_any (A / 60 % 60) 2 (by omega) (by omega) (by intro; omega) w19 hr19 hs19 (by first | omega | (simp only [List.length_append, List.length_cons, List.length_nil]; omega))).mono ?_
  rintro e w20 ⟨v20, rfl, hr20, hg20⟩
  have g20 := g19.trans hg20
  have hs20 : base ≤ w20.heap.size := Nat.le_trans hs4 g20.grown.size
  clear hg20
  go_wp2_with fail
  go_ret
  exact ⟨v20, rfl, hr20, (Gr.of_below HB4.out v0).trans g20⟩

set_option maxRecDepth 100000 in
set_option maxHeartbeats 4000000 in
theorem rfc_n_z {t : Fs.Tm} (TD : TmD t) (h0 : t.off = 0) (l0 : List UInt8) (hl0 : l0.length ≤ 10000000000) (tv v0 : Value) (base : Nat) (w : World) (HT : Told w tv t.year t.month t.day t.hour t.min t.sec t.nano t.name t.off) (hr : Row w base v0 l0) (hb : base ≤ w.heap.size)
    (hv : ∀ g, v0.ownBlock = some g → g < w.heap.size) :
    Calls Tryd.prog 57 #[tv, v0, .bool true] w fun e w' => ∃ v', e = .returned v' ∧ Row w' base v' (l0 ++ Fs.rfc t true) ∧ Gr w w' v0 v' := by
  have HE : Hid ((l0 ++ Fs.rfc t true) = l0 ++ Fs.dg 4 t.year ++ [45] ++ Fs.dg 2 t.month ++ [45] ++ Fs.dg 2 t.day ++ [84] ++ Fs.dg 2 t.hour ++ [58] ++ Fs.dg 2 t.min ++ [58] ++ Fs.dg 2 t.sec ++ Fs.nanoT (589859 % 65536 == 35) (589859 / 65536 % 4096) 46 t.nano ++ [90]) := by
    show _ = _
    unfold Fs.rfc
    rw [if_pos h0]
    simp [Fs.rfcD, Nat.div_div_eq_div_mul]
  rw [HE.out]
  obtain ⟨i0, hi, hz0, hz1, hz2⟩ := info_parts info_u8
  obtain ⟨⟨lv, rfl, hTL⟩, hd, hc, o1, o2⟩ := HT
  obtain ⟨q, rfl⟩ := hTL.ptr
  unfold timeV
  obtain ⟨ext, hext⟩ : ∃ ext, ext = Fs.isecs (t.year : Int) t.month t.day t.hour t.min t.sec - t.off := ⟨_, rfl⟩
  have hb1 : Below w.heap.size w (w.alloc (.cells #[.int .u64 (t.nano : Nat), .int .i64 ext, .pointer q] 41)) := (Below.refl _ _).alloc (Nat.le_refl _) _
  have HT1 : Told (w.alloc (.cells #[.int .u64 (t.nano : Nat), .int .i64 ext, .pointer q] 41)) (timeV t.nano ext (.pointer q)) t.year t.month t.day t.hour t.min t.sec t.nano t.name t.off :=
    ⟨⟨.pointer q, by rw [hext], hTL.below hb1⟩, hd, hc, o1, o2⟩
  have hlc := locabs_told HT1
  have TC := TCell.new w t.nano ext (.pointer q) 41
  have hday := fun w => absN_day hd hc w
  have hdate := fun w => date_any hd w
  have hclk := fun w => absN_clock hd hc w
  have htb : v0.ownBlock ≠ some w.heap.size := fun e => absurd (hv _ e) (by omega)
  have hr1 := hr.below hb1
  have hbb := hb1.size
  unfold timeV at hlc
  rw [← hext]
  obtain ⟨y1, m1, m2, dd, yd, wd, hh, mm, ss, nn, nl, p1, p2, p3⟩ := TD.ok
  rw [h0] at hlc
  clear HT1 hTL hr h0 p1 p2 p3 o1 o2 nl TD
  have HLC := hide hlc
  have HTC := hide TC
  have HDY := hide hday
  have HDT := hide hdate
  have HCK := hide hclk
  have HB1 := hide hb1
  have HR := hide hr1
  clear hlc TC hday hb1 hr1 hext hd hc hdate hclk
  go_enter Tryd.func57, Tryd.ntmps57
  go_wp2_with fail
  refine HLC.out.mono ?_
  rintro e w2 ⟨rfl, hb2⟩
  have HB2 := hide (HB1.out.trans (hb2.mono hbb))
  have HTC2 := hide (HTC.out.below hb2)
  have HR2 := hide (HR.out.below hb2)
  clear HB1 HTC HR hb2 HLC
  go_wp2_with fail
  refine (HDY.out _).mono ?_
  rintro e w3 ⟨rfl, hq⟩
  have HB3 := hide (HB2.out.trans (hq.below _))
  have HTC3 := hide (HTC2.out.qt hq)
  have HR3 := hide (HR2.out.below (hq.below _))
  clear HB2 HTC2 HR2 hq HDY
  go_wp2_with fail
  refine (HDT.out _).mono ?_
  rintro e w4 ⟨rfl, hq⟩
  have hB4 := HB3.out.trans (hq.below _)
  have HTC4 := hide (HTC3.out.qt hq)
  have hr4 := HR3.out.below (hq.below _)
  have g4 : Gr w4 w4 v0 v0 := Gr.refl _ _
  have hs4 : base ≤ w4.heap.size := Nat.le_trans hb hB4.size
  have HB4 := hide hB4
  clear HB3 HTC3 HR3 hq HDT hB4
  clear HE
  have k4 : (Fs.dg 4 t.year).length ≤ 9 := Fs.dg_le (by omega) (by omega)
  have km : (Fs.dg 2 t.month).length ≤ 9 := Fs.dg_le (by omega) (by omega)
  have kd : (Fs.dg 2 t.day).length ≤ 9 := Fs.dg_le (by omega) (by omega)
  have kh : (Fs.dg 2 t.hour).length ≤ 9 := Fs.dg_le (by omega) (by omega)
  have kn : (Fs.dg 2 t.min).length ≤ 9 := Fs.dg_le (by omega) (by omega)
  have ks : (Fs.dg 2 t.sec).length ≤ 9 := Fs.dg_le (by omega) (by omega)
  have kf : (Fs.nanoT (589859 % 65536 == 35) (589859 / 65536 % 4096) 46 t.nano).length ≤ 1000 := Fs.nanoT_le nn
  go_wp2_with fail
  refine (appendInt_any (t.year) 4 (by omega) (by omega) (by intro; omega) w4 hr4 hs4 (by first | omega | (simp only [List.length_append, List.length_cons, List.length_nil]; omega))).mono ?_
  rintro e w5 ⟨v5, rfl, hr5, hg5⟩
  have g5 := g4.trans hg5
  have hs5 : base ≤ w5.heap.size := Nat.le_trans hs4 g5.grown.size
  clear hg5
  go_wp2_with (at_builtin; refine wpList_append_gr _ rfl (.tmp 34) (.tmp 35) 47 rfl 5 i0 (.int .u8 0) Tryd.underlying47 hi hz0 hz1 hz2 rfl rfl (hr5.alloc _) (by simp; omega) ⟨w5.heap.size, 0, none⟩ 1 1 [45] rfl rfl (news_new w5 _ _ _ _ (row1 rfl)) (by first | omega | (simp only [List.length_append, List.length_cons, List.length_nil]; omega)) ?_; intro v6 w6 hr6 hg6)
  have g6 := (g5.alloc (Obj.cells #[.int .u8 45] 5)).trans hg6
  have hs6 : base ≤ w6.heap.size := Nat.le_trans hs4 g6.grown.size
  clear hg6
  refine (appendInt_any (t.month) 2 (by omega) (by omega) (by intro; omega) w6 hr6 hs6 (by first | omega | (simp only [List.length_append, List.length_cons, List.length_nil]; omega))).mono ?_
  rintro e w7 ⟨v7, rfl, hr7, hg7⟩
  have g7 := g6.trans hg7
  have hs7 : base ≤ w7.heap.size := Nat.le_trans hs4 g7.grown.size
  clear hg7
  go_wp2_with (at_builtin; refine wpList_append_gr _ rfl (.tmp 40) (.tmp 41) 47 rfl 5 i0 (.int .u8 0) Tryd.underlying47 hi hz0 hz1 hz2 rfl rfl (hr7.alloc _) (by simp; omega) ⟨w7.heap.size, 0, none⟩ 1 1 [45] rfl rfl (news_new w7 _ _ _ _ (row1 rfl)) (by first | omega | (simp only [List.length_append, List.length_cons, List.length_nil]; omega)) ?_; intro v8 w8 hr8 hg8)
  have g8 := (g7.alloc (Obj.cells #[.int .u8 45] 5)).trans hg8
  have hs8 : base ≤ w8.heap.size := Nat.le_trans hs4 g8.grown.size
  clear hg8
  refine (appendInt_any (t.day) 2 (by omega) (by omega) (by intro; omega) w8 hr8 hs8 (by first | omega | (simp only [List.length_append, List.length_cons, List.length_nil]; omega))).mono ?_
  rintro e w9 ⟨v9, rfl, hr9, hg9⟩
  have g9 := g8.trans hg9
  have hs9 : base ≤ w9.heap.size := Nat.le_trans hs4 g9.grown.size
  clear hg9
  go_wp2_with (at_builtin; refine wpList_append_gr _ rfl (.tmp 46) (.tmp 47) 47 rfl 5 i0 (.int .u8 0) Tryd.underlying47 hi hz0 hz1 hz2 rfl rfl (hr9.alloc _) (by simp; omega) ⟨w9.heap.size, 0, none⟩ 1 1 [84] rfl rfl (news_new w9 _ _ _ _ (row1 rfl)) (by first | omega | (simp only [List.length_append, List.length_cons, List.length_nil]; omega)) ?_; intro v10 w10 hr10 hg10)
  have g10 := (g9.alloc (Obj.cells #[.int .u8 84] 5)).trans hg10
  have hs10 : base ≤ w10.heap.size := Nat.le_trans hs4 g10.grown.size
  clear hg10
  refine (HCK.out _).mono ?_
  rintro e w11 ⟨rfl, hq⟩
  have hr11 := hr10.below (hq.below _)
  have g11 := g10.then_below (hq.below _)
  have hs11 : base ≤ w11.heap.size := Nat.le_trans hs4 g11.grown.size
  clear hq HCK
  go_wp2_with fail
  refine (appendInt_any (t.hour) 2 (by omega) (by omega) (by intro; omega) w11 hr11 hs11 (by first | omega | (simp only [List.length_append, List.length_cons, List.length_nil]; omega))).mono ?_
  rintro e w12 ⟨v12, rfl, hr12, hg12⟩
  have g12 := g11.trans hg12
  have hs12 : base ≤ w12.heap.size := Nat.le_trans hs4 g12.grown.size
  clear hg12
  go_wp2_with (at_builtin; refine wpList_append_gr _ rfl (.tmp 58) (.tmp 59) 47 rfl 5 i0 (.int .u8 0) Tryd.underlying47 hi hz0 hz1 hz2 rfl rfl (hr12.alloc _) (by simp; omega) ⟨w12.heap.size, 0, none⟩ 1 1 [58] rfl rfl (news_new w12 _ _ _ _ (row1 rfl)) (by first | omega | (simp only [List.length_append, List.length_cons, List.length_nil]; omega)) ?_; intro v13 w13 hr13 hg13)
  have g13 := (g12.alloc (Obj.cells #[.int .u8 58] 5)).trans hg13
  have hs13 : base ≤ w13.heap.size := Nat.le_trans hs4 g13.grown.size
  clear hg13
  refine (appendInt_any (t.min) 2 (by omega) (by omega) (by intro; omega) w13 hr13 hs13 (by first | omega | (simp only [List.length_append, List.length_cons, List.length_nil]; omega))).mono ?_
  rintro e w14 ⟨v14, rfl, hr14, hg14⟩
  have g14 := g13.trans hg14
  have hs14 : base ≤ w14.heap.size := Nat.le_trans hs4 g14.grown.size
  clear hg14
  go_wp2_with (at_builtin; refine wpList_append_gr _ rfl (.tmp 64) (.tmp 65) 47 rfl 5 i0 (.int .u8 0) Tryd.underlying47 hi hz0 hz1 hz2 rfl rfl (hr14.alloc _) (by simp; omega) ⟨w14.heap.size, 0, none⟩ 1 1 [58] rfl rfl (news_new w14 _ _ _ _ (row1 rfl)) (by first | omega | (simp only [List.length_append, List.length_cons, List.length_nil]; omega)) ?_; intro v15 w15 hr15 hg15)
  have g15 := (g14.alloc (Obj.cells #[.int .u8 58] 5)).trans hg15
  have hs15 : base ≤ w15.heap.size := Nat.le_trans hs4 g15.grown.size
  clear hg15
  refine (appendInt_any (t.sec) 2 (by omega) (by omega) (by intro; omega) w15 hr15 hs15 (by first | omega | (simp only [List.length_append, List.length_cons, List.length_nil]; omega))).mono ?_
  rintro e w16 ⟨v16, rfl, hr16, hg16⟩
  have g16 := g15.trans hg16
  have hs16 : base ≤ w16.heap.size := Nat.le_trans hs4 g16.grown.size
  clear hg16
  go_wp2_with fail
  refine (frac_lit_35_46 9 (by omega) _).mono ?_
  rw [frac_9]
  rintro e w17 ⟨rfl, hq⟩
  have hr17 := hr16.below (hq.below _)
  have g17 := g16.then_below (hq.below _)
  have hs17 : base ≤ w17.heap.size := Nat.le_trans hs4 g17.grown.size
  clear hq
  obtain ⟨c0, c1, c2⟩ := HTC4.out.gr g17 htb
  go_wp2_with fail
  refine (Nanosecond_any t.nano nn ext (.pointer q) _).mono ?_
  rintro e w18 ⟨rfl, hb5⟩
  have hr18 := hr17.below hb5
  have g18 := g17.then_below hb5
  have hs18 : base ≤ w18.heap.size := Nat.le_trans hs4 g18.grown.size
  clear hb5 c0 c1 c2
  go_wp2_with fail
  refine (appendNano_any t.nano 589859 nn (by omega) (by decide) 46 (by decide) w18 hr18 hs18 (by first | omega | (simp only [List.length_append, List.length_cons, List.length_nil]; omega))).mono ?_
  rintro e w19 ⟨v19, rfl, hr19, hg19⟩
  have g19 := g18.trans hg19
  have hs19 : base ≤ w19.heap.size := Nat.le_trans hs4 g19.grown.size
  clear hg19
  go_wp2_with (at_builtin; refine wpList_append_gr _ rfl (.tmp 79) (.tmp 80) 47 rfl 5 i0 (.int .u8 0) Tryd.underlying47 hi hz0 hz1 hz2 rfl rfl (hr19.alloc _) (by simp; omega) ⟨w19.heap.size, 0, none⟩ 1 1 [90] rfl rfl (news_new w19 _ _ _ _ (row1 rfl)) (by first | omega | (simp only [List.length_append, List.length_cons, List.length_nil]; omega)) ?_; intro v20 w20 hr20 hg20)
  have g20 := (g19.alloc (Obj.cells #[.int .u8 90] 5)).trans hg20
  have hs20 : base ≤ w20.heap.size := Nat.le_trans hs4 g20.grown.size
  clear hg20
  go_ret
  exact ⟨v20, rfl, hr20, (Gr.of_below HB4.out v0).trans g20⟩

set_option maxRecDepth 100000 in
set_option maxHeartbeats 4000000 in
theorem rfc_n_p {t : Fs.Tm} (TD : TmD t) (A : Nat) (hA : 0 < A) (h0 : t.off = (A : Int)) (l0 : List UInt8) (hl0 : l0.length ≤ 10000000000) (tv v0 : Value) (base : Nat) (w : World) (HT : Told w tv t.year t.month t.day t.hour t.min t.sec t.nano t.name t.off) (hr : Row w base v0 l0) (hb : base ≤ w.heap.size)
    (hv : ∀ g, v0.ownBlock = some g → g < w.heap.size) :
    Calls Tryd.prog 57 #[tv, v0, .bool true] w fun e w' => ∃ v', e = .returned v' ∧ Row w' base v' (l0 ++ Fs.rfc t true) ∧ Gr w w' v0 v' := by
  have HE : Hid ((l0 ++ Fs.rfc t true) = l0 ++ Fs.dg 4 t.year ++ [45] ++ Fs.dg 2 t.month ++ [45] ++ Fs.dg 2 t.day ++ [84] ++ Fs.dg 2 t.hour ++ [58] ++ Fs.dg 2 t.min ++ [58] ++ Fs.dg 2 t.sec ++ Fs.nanoT (589859 % 65536 == 35) (589859 / 65536 % 4096) 46 t.nano ++ [43] ++ Fs.dg 2 (A / 60 / 60) ++ [58] ++ Fs.dg 2 (A / 60 % 60)) := by
    show _ = _
    unfold Fs.rfc
    rw [if_neg (show ¬ t.off = 0 by omega)]
    have hab : t.off.natAbs = A := by omega
    have hn : ¬ t.off < 0 := by omega
    unfold Fs.offs
    rw [if_neg hn, hab]
    simp [Fs.rfcD, Nat.div_div_eq_div_mul]
  rw [HE.out]
  obtain ⟨i0, hi, hz0, hz1, hz2⟩ := info_parts info_u8
  obtain ⟨⟨lv, rfl, hTL⟩, hd, hc, o1, o2⟩ := HT
  obtain ⟨q, rfl⟩ := hTL.ptr
  unfold timeV
  obtain ⟨ext, hext⟩ : ∃ ext, ext = Fs.isecs (t.year : Int) t.month t.day t.hour t.min t.sec - t.off := ⟨_, rfl⟩
  have hb1 : Below w.heap.size w (w.alloc (.cells #[.int .u64 (t.nano : Nat), .int .i64 ext, .pointer q] 41)) := (Below.refl _ _).alloc (Nat.le_refl _) _
  have HT1 : Told (w.alloc (.cells #[.int .u64 (t.nano : Nat), .int .i64 ext, .pointer q] 41)) (timeV t.nano ext (.pointer q)) t.year t.month t.day t.hour t.min t.sec t.nano t.name t.off :=
    ⟨⟨.pointer q, by rw [hext], hTL.below hb1⟩, hd, hc, o1, o2⟩
  have hlc := locabs_told HT1
  have TC := TCell.new w t.nano ext (.pointer q) 41
  have hday := fun w => absN_day hd hc w
  have hdate := fun w => date_any hd w
  have hclk := fun w => absN_clock hd hc w
  have htb : v0.ownBlock ≠ some w.heap.size := fun e => absurd (hv _ e) (by omega)
  have hr1 := hr.below hb1
  have hbb := hb1.size
  unfold timeV at hlc
  rw [← hext]
  obtain ⟨y1, m1, m2, dd, yd, wd, hh, mm, ss, nn, nl, p1, p2, p3⟩ := TD.ok
  rw [h0] at hlc
  have hA2 : A ≤ 100000 := by omega
  have e0 : ((A : Int) == 0) = false := by rw [beq_eq_false_iff_ne]; omega
  clear HT1 hTL hr h0 p1 p2 p3 o1 o2 nl TD
  have HLC := hide hlc
  have HTC := hide TC
  have HDY := hide hday
  have HDT := hide hdate
  have HCK := hide hclk
  have HB1 := hide hb1
  have HR := hide hr1
  clear hlc TC hday hb1 hr1 hext hd hc hdate hclk
  go_enter Tryd.func57, Tryd.ntmps57
  go_wp2_with fail
  refine HLC.out.mono ?_
  rintro e w2 ⟨rfl, hb2⟩
  have HB2 := hide (HB1.out.trans (hb2.mono hbb))
  have HTC2 := hide (HTC.out.below hb2)
  have HR2 := hide (HR.out.below hb2)
  clear HB1 HTC HR hb2 HLC
  go_wp2_with fail
  refine (HDY.out _).mono ?_
  rintro e w3 ⟨rfl, hq⟩
  have HB3 := hide (HB2.out.trans (hq.below _))
  have HTC3 := hide (HTC2.out.qt hq)
  have HR3 := hide (HR2.out.below (hq.below _))
  clear HB2 HTC2 HR2 hq HDY
  go_wp2_with fail
  refine (HDT.out _).mono ?_
  rintro e w4 ⟨rfl, hq⟩
  have hB4 := HB3.out.trans (hq.below _)
  have HTC4 := hide (HTC3.out.qt hq)
  have hr4 := HR3.out.below (hq.below _)
  have g4 : Gr w4 w4 v0 v0 := Gr.refl _ _
  have hs4 : base ≤ w4.heap.size := Nat.le_trans hb hB4.size
  have HB4 := hide hB4
  clear HB3 HTC3 HR3 hq HDT hB4
  clear HE
  have k4 : (Fs.dg 4 t.year).length ≤ 9 := Fs.dg_le (by omega) (by omega)
  have km : (Fs.dg 2 t.month).length ≤ 9 := Fs.dg_le (by omega) (by omega)
  have kd : (Fs.dg 2 t.day).length ≤ 9 := Fs.dg_le (by omega) (by omega)
  have kh : (Fs.dg 2 t.hour).length ≤ 9 := Fs.dg_le (by omega) (by omega)
  have kn : (Fs.dg 2 t.min).length ≤ 9 := Fs.dg_le (by omega) (by omega)
  have ks : (Fs.dg 2 t.sec).length ≤ 9 := Fs.dg_le (by omega) (by omega)
  have kf : (Fs.nanoT (589859 % 65536 == 35) (589859 / 65536 % 4096) 46 t.nano).length ≤ 1000 := Fs.nanoT_le nn
  have ko : (Fs.dg 2 (A / 60 / 60)).length ≤ 9 := Fs.dg_le (by omega) (by omega)
  have kp : (Fs.dg 2 (A / 60 % 60)).length ≤ 9 := Fs.dg_le (by omega) (by omega)
  go_wp2_with fail
  refine (appendInt_any (t.year) 4 (by omega) (by omega) (by intro; omega) w4 hr4 hs4 (by first | omega | (simp only [List.length_append, List.length_cons, List.length_nil]; omega))).mono ?_
  rintro e w5 ⟨v5, rfl, hr5, hg5⟩
  have g5 := g4.trans hg5
  have hs5 : base ≤ w5.heap.size := Nat.le_trans hs4 g5.grown.size
  clear hg5
  go_wp2_with (at_builtin; refine wpList_append_gr _ rfl (.tmp 34) (.tmp 35) 47 rfl 5 i0 (.int .u8 0) Tryd.underlying47 hi hz0 hz1 hz2 rfl rfl (hr5.alloc _) (by simp; omega) ⟨w5.heap.size, 0, none⟩ 1 1 [45] rfl rfl (news_new w5 _ _ _ _ (row1 rfl)) (by first | omega | (simp only [List.length_append, List.length_cons, List.length_nil]; omega)) ?_; intro v6 w6 hr6 hg6)
  have g6 := (g5.alloc (Obj.cells #[.int .u8 45] 5)).trans hg6
  have hs6 : base ≤ w6.heap.size := Nat.le_trans hs4 g6.grown.size
  clear hg6
  refine (appendInt_any (t.month) 2 (by omega) (by omega) (by intro; omega) w6 hr6 hs6 (by first | omega | (simp only [List.length_append, List.length_cons, List.length_nil]; omega))).mono ?_
  rintro e w7 ⟨v7, rfl, hr7, hg7⟩
  have g7 := g6.trans hg7
  have hs7 : base ≤ w7.heap.size := Nat.le_trans hs4 g7.grown.size
  clear hg7
  go_wp2_with (at_builtin; refine wpList_append_gr _ rfl (.tmp 40) (.tmp 41) 47 rfl 5 i0 (.int .u8 0) Tryd.underlying47 hi hz0 hz1 hz2 rfl rfl (hr7.alloc _) (by simp; omega) ⟨w7.heap.size, 0, none⟩ 1 1 [45] rfl rfl (news_new w7 _ _ _ _ (row1 rfl)) (by first | omega | (simp only [List.length_append, List.length_cons, List.length_nil]; omega)) ?_; intro v8 w8 hr8 hg8)
  have g8 := (g7.alloc (Obj.cells #[.int .u8 45] 5)).trans hg8
  have hs8 : base ≤ w8.heap.size := Nat.le_trans hs4 g8.grown.size
  clear hg8
  refine (appendInt_any (t.day) 2 (by omega) (by omega) (by intro; omega) w8 hr8 hs8 (by first | omega | (simp only [List.length_append, List.length_cons, List.length_nil]; omega))).mono ?_
  rintro e w9 ⟨v9, rfl, hr9, hg9⟩
  have g9 := g8.trans hg9
  have hs9 : base ≤ w9.heap.size := Nat.le_trans hs4 g9.grown.size
  clear hg9
  go_wp2_with (at_builtin; refine wpList_append_gr _ rfl (.tmp 46) (.tmp 47) 47 rfl 5 i0 (.int .u8 0) Tryd.underlying47 hi hz0 hz1 hz2 rfl rfl (hr9.alloc _) (by simp; omega) ⟨w9.heap.size, 0, none⟩ 1 1 [84] rfl rfl (news_new w9 _ _ _ _ (row1 rfl)) (by first | omega | (simp only [List.length_append, List.length_cons, List.length_nil]; omega)) ?_; intro v10 w10 hr10 hg10)
  have g10 := (g9.alloc (Obj.cells #[.int .u8 84] 5)).trans hg10
  have hs10 : base ≤ w10.heap.size := Nat.le_trans hs4 g10.grown.size
  clear hg10
  refine (HCK.out _).mono ?_
  rintro e w11 ⟨rfl, hq⟩
  have hr11 := hr10.below (hq.below _)
  have g11 := g10.then_below (hq.below _)
  have hs11 : base ≤ w11.heap.size := Nat.le_trans hs4 g11.grown.size
  clear hq HCK
  go_wp2_with fail
  refine (appendInt_any (t.hour) 2 (by omega) (by omega) (by intro; omega) w11 hr11 hs11 (by first | omega | (simp only [List.length_append, List.length_cons, List.length_nil]; omega))).mono ?_
  rintro e w12 ⟨v12, rfl, hr12, hg12⟩
  have g12 := g11.trans hg12
  have hs12 : base ≤ w12.heap.size := Nat.le_trans hs4 g12.grown.size
  clear hg12
  go_wp2_with (at_builtin; refine wpList_append_gr _ rfl (.tmp 58) (.tmp 59) 47 rfl 5 i0 (.int .u8 0) Tryd.underlying47 hi hz0 hz1 hz2 rfl rfl (hr12.alloc _) (by simp; omega) ⟨w12.heap.size, 0, none⟩ 1 1 [58] rfl rfl (news_new w12 _ _ _ _ (row1 rfl)) (by first | omega | (simp only [List.length_append, List.length_cons, List.length_nil]; omega)) ?_; intro v13 w13 hr13 hg13)
  have g13 := (g12.alloc (Obj.cells #[.int .u8 58] 5)).trans hg13
  have hs13 : base ≤ w13.heap.size := Nat.le_trans hs4 g13.grown.size
  clear hg13
  refine (appendInt_any (t.min) 2 (by omega) (by omega) (by intro; omega) w13 hr13 hs13 (by first | omega | (simp only [List.length_append, List.length_cons, List.length_nil]; omega))).mono ?_
  rintro e w14 ⟨v14, rfl, hr14, hg14⟩
  have g14 := g13.trans hg14
  have hs14 : base ≤ w14.heap.size := Nat.le_trans hs4 g14.grown.size
  clear hg14
  go_wp2_with (at_builtin; refine wpList_append_gr _ rfl (.tmp 64) (.tmp 65) 47 rfl 5 i0 (.int .u8 0) Tryd.underlying47 hi hz0 hz1 hz2 rfl rfl (hr14.alloc _) (by simp; omega) ⟨w14.heap.size, 0, none⟩ 1 1 [58] rfl rfl (news_new w14 _ _ _ _ (row1 rfl)) (by first | omega | (simp only [List.length_append, List.length_cons, List.length_nil]; omega)) ?_; intro v15 w15 hr15 hg15)
  have g15 := (g14.alloc (Obj.cells #[.int .u8 58] 5)).trans hg15
  have hs15 : base ≤ w15.heap.size := Nat.le_trans hs4 g15.grown.size
  clear hg15
  refine (appendInt_any (t.sec) 2 (by omega) (by omega) (by intro; omega) w15 hr15 hs15 (by first | omega | (simp only [List.length_append, List.length_cons, List.length_nil]; omega))).mono ?_
  rintro e w16 ⟨v16, rfl, hr16, hg16⟩
  have g16 := g15.trans hg16
  have hs16 : base ≤ w16.heap.size := Nat.le_trans hs4 g16.grown.size
  clear hg16
  go_wp2_with fail
  refine (frac_lit_35_46 9 (by omega) _).mono ?_
  rw [frac_9]
  rintro e w17 ⟨rfl, hq⟩
  have hr17 := hr16.below (hq.below _)
  have g17 := g16.then_below (hq.below _)
  have hs17 : base ≤ w17.heap.size := Nat.le_trans hs4 g17.grown.size
  clear hq
  obtain ⟨c0, c1, c2⟩ := HTC4.out.gr g17 htb
  go_wp2_with fail
  refine (Nanosecond_any t.nano nn ext (.pointer q) _).mono ?_
  rintro e w18 ⟨rfl, hb5⟩
  have hr18 := hr17.below hb5
  have g18 := g17.then_below hb5
  have hs18 : base ≤ w18.heap.size := Nat.le_trans hs4 g18.grown.size
  clear hb5 c0 c1 c2
  go_wp2_with fail
  refine (appendNano_any t.nano 589859 nn (by omega) (by decide) 46 (by decide) w18 hr18 hs18 (by first | omega | (simp only [List.length_append, List.length_cons, List.length_nil]; omega))).mono ?_
  rintro e w19 ⟨v19, rfl, hr19, hg19⟩
  have g19 := g18.trans hg19
  have hs19 : base ≤ w19.heap.size := Nat.le_trans hs4 g19.grown.size
  clear hg19
  go_wp2_with (at_builtin; refine wpList_append_gr _ rfl (.tmp 91) (.tmp 92) 47 rfl 5 i0 (.int .u8 0) Tryd.underlying47 hi hz0 hz1 hz2 rfl rfl (hr19.alloc _) (by simp; omega) ⟨w19.heap.size, 0, none⟩ 1 1 [43] rfl rfl (news_new w19 _ _ _ _ (row1 rfl)) (by first | omega | (simp only [List.length_append, List.length_cons, List.length_nil]; omega)) ?_; intro v20 w20 hr20 hg20)
  have g20 := (g19.alloc (Obj.cells #[.int .u8 43] 5)).trans hg20
  have hs20 : base ≤ w20.heap.size := Nat.le_trans hs4 g20.grown.size
  clear hg20
  refine (appendInt_any (A / 60 / 60) 2 (by omega) (by omega) (by intro; omega) w20 hr20 hs20 (by first | omega | (simp only [List.length_append, List.length_cons, List.length_nil]; omega))).mono ?_
  rintro e w21 ⟨v21, rfl, hr21, hg21⟩
  have g21 := g20.trans hg21
  have hs21 : base ≤ w21.heap.size := Nat.le_trans hs4 g21.grown.size
  clear hg21
  go_wp2_with (at_builtin; refine wpList_append_gr _ rfl (.tmp 98) (.tmp 99) 47 rfl 5 i0 (.int .u8 0) Tryd.underlying47 hi hz0 hz1 hz2 rfl rfl (hr21.alloc _) (by simp; omega) ⟨w21.heap.size, 0, none⟩ 1 1 [58] rfl rfl (news_new w21 _ _ _ _ (row1 rfl)) (by first | omega | (simp only [List.length_append, List.length_cons, List.length_nil]; omega)) ?_; intro v22 w22 hr22 hg22)
  have g22 := (g21.alloc (Obj.cells #[.int .u8 58] 5)).trans hg22
  have hs22 : base ≤ w22.heap.size := Nat.le_trans hs4 g22.grown.size
  clear hg22
  refine (appendInt_any (A / 60 % 60) 2 (by omega) (by omega) (by intro; omega) w22 hr22 hs22 (by first | omega | (simp only [List.length_append, List.length_cons, List.length_nil]; omega))).mono ?_
  rintro e w23 ⟨v23, rfl, hr23, hg23⟩
  have g23 := g22.trans hg23
  have hs23 : base ≤ w23.heap.size := Nat.le_trans hs4 g23.grown.size
  clear hg23
  go_wp2_with fail
  go_ret
  exact ⟨v23, rfl, hr23, (Gr.of_below HB4.out v0).trans g23⟩

set_option maxRecDepth 100000 in
set_option maxHeartbeats 4000000 in
theorem rfc_n_n {t : Fs.Tm} (TD : TmD t) (A : Nat) (hA : 60 ≤ A) (h0 : t.off = -(A : Int)) (l0 : List UInt8) (hl0 : l0.length ≤ 10000000000) (tv v0 : Value) (base : Nat) (w : World) (HT : Told w tv t.year t.month t.day t.hour t.min t.sec t.nano t.name t.off) (hr : Row w base v0 l0) (hb : base ≤ w.heap.size)
    (hv : ∀ g, v0.ownBlock = some g → g < w.heap.size) :
    Calls Tryd.prog 57 #[tv, v0, .bool true] w fun e w' => ∃ v', e = .returned v' ∧ Row w' base v' (l0 ++ Fs.rfc t true) ∧ Gr w w' v0 v' := by
  have HE : Hid ((l0 ++ Fs.rfc t true) = l0 ++ Fs.dg 4 t.year ++ [45] ++ Fs.dg 2 t.month ++ [45] ++ Fs.dg 2 t.day ++ [84] ++ Fs.dg 2 t.hour ++ [58] ++ Fs.dg 2 t.min ++ [58] ++ Fs.dg 2 t.sec ++ Fs.nanoT (589859 % 65536 == 35) (589859 / 65536 % 4096) 46 t.nano ++ [45] ++ Fs.dg 2 (A / 60 / 60) ++ [58] ++ Fs.dg 2 (A / 60 % 60)) := by
    show _ = _
    unfold Fs.rfc
    rw [if_neg (show ¬ t.off = 0 by omega)]
    have hab : t.off.natAbs = A := by omega
    have hn : t.off < 0 := by omega
    unfold Fs.offs
    rw [if_pos hn, hab]
    simp [Fs.rfcD, Nat.div_div_eq_div_mul]
  rw [HE.out]
  obtain ⟨i0, hi, hz0, hz1, hz2⟩ := info_parts info_u8
  obtain ⟨⟨lv, rfl, hTL⟩, hd, hc, o1, o2⟩ := HT
  obtain ⟨q, rfl⟩ := hTL.ptr
  unfold timeV
  obtain ⟨ext, hext⟩ : ∃ ext, ext = Fs.isecs (t.year : Int) t.month t.day t.hour t.min t.sec - t.off := ⟨_, rfl⟩
  have hb1 : Below w.heap.size w (w.alloc (.cells #[.int .u64 (t.nano : Nat), .int .i64 ext, .pointer q] 41)) := (Below.refl _ _).alloc (Nat.le_refl _) _
  have HT1 : Told (w.alloc (.cells #[.int .u64 (t.nano : Nat), .int .i64 ext, .pointer q] 41)) (timeV t.nano ext (.pointer q)) t.year t.month t.day t.hour t.min t.sec t.nano t.name t.off :=
    ⟨⟨.pointer q, by rw [hext], hTL.below hb1⟩, hd, hc, o1, o2⟩
  have hlc := locabs_told HT1
  have TC := TCell.new w t.nano ext (.pointer q) 41
  have hday := fun w => absN_day hd hc w
  have hdate := fun w => date_any hd w
  have hclk := fun w => absN_clock hd hc w
  have htb : v0.ownBlock ≠ some w.heap.size := fun e => absurd (hv _ e) (by omega)
  have hr1 := hr.below hb1
  have hbb := hb1.size
  unfold timeV at hlc
  rw [← hext]
  obtain ⟨y1, m1, m2, dd, yd, wd, hh, mm, ss, nn, nl, p1, p2, p3⟩ := TD.ok
  rw [h0] at hlc
  have hA2 : A ≤ 100000 := by omega
  have e0 : (-(A : Int) == 0) = false := by rw [beq_eq_false_iff_ne]; omega
  have e1 : ((A : Int) == 0) = false := by rw [beq_eq_false_iff_ne]; omega
  have ez : (0 : Int) < (A : Int) / 60 := by omega
  have ez2 : -((A : Int) / 60) < 0 := by omega
  have et := tdiv_neg (A := A)
  clear HT1 hTL hr h0 p1 p2 p3 o1 o2 nl TD
  have HLC := hide hlc
  have HTC := hide TC
  have HDY := hide hday
  have HDT := hide hdate
  have HCK := hide hclk
  have HB1 := hide hb1
  have HR := hide hr1
  clear hlc TC hday hb1 hr1 hext hd hc hdate hclk
  go_enter Tryd.func57, Tryd.ntmps57
  go_wp2_with fail
  refine HLC.out.mono ?_
  rintro e w2 ⟨rfl, hb2⟩
  have HB2 := hide (HB1.out.trans (hb2.mono hbb))
  have HTC2 := hide (HTC.out.below hb2)
  have HR2 := hide (HR.out.below hb2)
  clear HB1 HTC HR hb2 HLC
  go_wp2_with fail
  refine (HDY.out _).mono ?_
  rintro e w3 ⟨rfl, hq⟩
  have HB3 := hide (HB2.out.trans (hq.below _))
  have HTC3 := hide (HTC2.out.qt hq)
  have HR3 := hide (HR2.out.below (hq.below _))
  clear HB2 HTC2 HR2 hq HDY
  go_wp2_with fail
  refine (HDT.out _).mono ?_
  rintro e w4 ⟨rfl, hq⟩
  have hB4 := HB3.out.trans (hq.below _)
  have HTC4 := hide (HTC3.out.qt hq)
  have hr4 := HR3.out.below (hq.below _)
  have g4 : Gr w4 w4 v0 v0 := Gr.refl _ _
  have hs4 : base ≤ w4.heap.size := Nat.le_trans hb hB4.size
  have HB4 := hide hB4
  clear HB3 HTC3 HR3 hq HDT hB4
  clear HE
  have k4 : (Fs.dg 4 t.year).length ≤ 9 := Fs.dg_le (by omega) (by omega)
  have km : (Fs.dg 2 t.month).length ≤ 9 := Fs.dg_le (by omega) (by omega)
  have kd : (Fs.dg 2 t.day).length ≤ 9 := Fs.dg_le (by omega) (by omega)
  have kh : (Fs.dg 2 t.hour).length ≤ 9 := Fs.dg_le (by omega) (by omega)
  have kn : (Fs.dg 2 t.min).length ≤ 9 := Fs.dg_le (by omega) (by omega)
  have ks : (Fs.dg 2 t.sec).length ≤ 9 := Fs.dg_le (by omega) (by omega)
  have kf : (Fs.nanoT (589859 % 65536 == 35) (589859 / 65536 % 4096) 46 t.nano).length ≤ 1000 := Fs.nanoT_le nn
  have ko : (Fs.dg 2 (A / 60 / 60)).length ≤ 9 := Fs.dg_le (by omega) (by omega)
  have kp : (Fs.dg 2 (A / 60 % 60)).length ≤ 9 := Fs.dg_le (by omega) (by omega)
  go_wp2_with fail
  refine (appendInt_any (t.year) 4 (by omega) (by omega) (by intro; omega) w4 hr4 hs4 (by first | omega | (simp only [List.length_append, List.length_cons, List.length_nil]; omega))).mono ?_
  rintro e w5 ⟨v5, rfl, hr5, hg5⟩
  have g5 := g4.trans hg5
  have hs5 : base ≤ w5.heap.size := Nat.le_trans hs4 g5.grown.size
  clear hg5
  go_wp2_with (at_builtin; refine wpList_append_gr _ rfl (.tmp 34) (.tmp 35) 47 rfl 5 i0 (.int .u8 0) Tryd.underlying47 hi hz0 hz1 hz2 rfl rfl (hr5.alloc _) (by simp; omega) ⟨w5.heap.size, 0, none⟩ 1 1 [45] rfl rfl (news_new w5 _ _ _ _ (row1 rfl)) (by first | omega | (simp only [List.length_append, List.length_cons, List.length_nil]; omega)) ?_; intro v6 w6 hr6 hg6)
  have g6 := (g5.alloc (Obj.cells #[.int .u8 45] 5)).trans hg6
  have hs6 : base ≤ w6.heap.size := Nat.le_trans hs4 g6.grown.size
  clear hg6
  refine (appendInt_any (t.month) 2 (by omega) (by omega) (by intro; omega) w6 hr6 hs6 (by first | omega | (simp only [List.length_append, List.length_cons, List.length_nil]; omega))).mono ?_
  rintro e w7 ⟨v7, rfl, hr7, hg7⟩
  have g7 := g6.trans hg7
  have hs7 : base ≤ w7.heap.size := Nat.le_trans hs4 g7.grown.size
  clear hg7
  go_wp2_with (at_builtin; refine wpList_append_gr _ rfl (.tmp 40) (.tmp 41) 47 rfl 5 i0 (.int .u8 0) Tryd.underlying47 hi hz0 hz1 hz2 rfl rfl (hr7.alloc _) (by simp; omega) ⟨w7.heap.size, 0, none⟩ 1 1 [45] rfl rfl (news_new w7 _ _ _ _ (row1 rfl)) (by first | omega | (simp only [List.length_append, List.length_cons, List.length_nil]; omega)) ?_; intro v8 w8 hr8 hg8)
  have g8 := (g7.alloc (Obj.cells #[.int .u8 45] 5)).trans hg8
  have hs8 : base ≤ w8.heap.size := Nat.le_trans hs4 g8.grown.size
  clear hg8
  refine (appendInt_any (t.day) 2 (by omega) (by omega) (by intro; omega) w8 hr8 hs8 (by first | omega | (simp only [List.length_append, List.length_cons, List.length_nil]; omega))).mono ?_
  rintro e w9 ⟨v9, rfl, hr9, hg9⟩
  have g9 := g8.trans hg9
  have hs9 : base ≤ w9.heap.size := Nat.le_trans hs4 g9.grown.size
  clear hg9
  go_wp2_with (at_builtin; refine wpList_append_gr _ rfl (.tmp 46) (.tmp 47) 47 rfl 5 i0 (.int .u8 0) Tryd.underlying47 hi hz0 hz1 hz2 rfl rfl (hr9.alloc _) (by simp; omega) ⟨w9.heap.size, 0, none⟩ 1 1 [84] rfl rfl (news_new w9 _ _ _ _ (row1 rfl)) (by first | omega | (simp only [List.length_append, List.length_cons, List.length_nil]; omega)) ?_; intro v10 w10 hr10 hg10)
  have g10 := (g9.alloc (Obj.cells #[.int .u8 84] 5)).trans hg10
  have hs10 : base ≤ w10.heap.size := Nat.le_trans hs4 g10.grown.size
  clear hg10
  refine (HCK.out _).mono ?_
  rintro e w11 ⟨rfl, hq⟩
  have hr11 := hr10.below (hq.below _)
  have g11 := g10.then_below (hq.below _)
  have hs11 : base ≤ w11.heap.size := Nat.le_trans hs4 g11.grown.size
  clear hq HCK
  go_wp2_with fail
  refine (appendInt_any (t.hour) 2 (by omega) (by omega) (by intro; omega) w11 hr11 hs11 (by first | omega | (simp only [List.length_append, List.length_cons, List.length_nil]; omega))).mono ?_
  rintro e w12 ⟨v12, rfl, hr12, hg12⟩
  have g12 := g11.trans hg12
  have hs12 : base ≤ w12.heap.size := Nat.le_trans hs4 g12.grown.size
  clear hg12
  go_wp2_with (at_builtin; refine wpList_append_gr _ rfl (.tmp 58) (.tmp 59) 47 rfl 5 i0 (.int .u8 0) Tryd.underlying47 hi hz0 hz1 hz2 rfl rfl (hr12.alloc _) (by simp; omega) ⟨w12.heap.size, 0, none⟩ 1 1 [58] rfl rfl (news_new w12 _ _ _ _ (row1 rfl)) (by first | omega | (simp only [List.length_append, List.length_cons, List.length_nil]; omega)) ?_; intro v13 w13 hr13 hg13)
  have g13 := (g12.alloc (Obj.cells #[.int .u8 58] 5)).trans hg13
  have hs13 : base ≤ w13.heap.size := Nat.le_trans hs4 g13.grown.size
  clear hg13
  refine (appendInt_any (t.min) 2 (by omega) (by omega) (by intro; omega) w13 hr13 hs13 (by first | omega | (simp only [List.length_append, List.length_cons, List.length_nil]; omega))).mono ?_
  rintro e w14 ⟨v14, rfl, hr14, hg14⟩
  have g14 := g13.trans hg14
  have hs14 : base ≤ w14.heap.size := Nat.le_trans hs4 g14.grown.size
  clear hg14
  go_wp2_with (at_builtin; refine wpList_append_gr _ rfl (.tmp 64) (.tmp 65) 47 rfl 5 i0 (.int .u8 0) Tryd.underlying47 hi hz0 hz1 hz2 rfl rfl (hr14.alloc _) (by simp; omega) ⟨w14.heap.size, 0, none⟩ 1 1 [58] rfl rfl (news_new w14 _ _ _ _ (row1 rfl)) (by first | omega | (simp only [List.length_append, List.length_cons, List.length_nil]; omega)) ?_; intro v15 w15 hr15 hg15)
  have g15 := (g14.alloc (Obj.cells #[.int .u8 58] 5)).trans hg15
  have hs15 : base ≤ w15.heap.size := Nat.le_trans hs4 g15.grown.size
  clear hg15
  refine (appendInt_any (t.sec) 2 (by omega) (by omega) (by intro; omega) w15 hr15 hs15 (by first | omega | (simp only [List.length_append, List.length_cons, List.length_nil]; omega))).mono ?_
  rintro e w16 ⟨v16, rfl, hr16, hg16⟩
  have g16 := g15.trans hg16
  have hs16 : base ≤ w16.heap.size := Nat.le_trans hs4 g16.grown.size
  clear hg16
  go_wp2_with fail
  refine (frac_lit_35_46 9 (by omega) _).mono ?_
  rw [frac_9]
  rintro e w17 ⟨rfl, hq⟩
  have hr17 := hr16.below (hq.below _)
  have g17 := g16.then_below (hq.below _)
  have hs17 : base ≤ w17.heap.size := Nat.le_trans hs4 g17.grown.size
  clear hq
  obtain ⟨c0, c1, c2⟩ := HTC4.out.gr g17 htb
  go_wp2_with fail
  refine (Nanosecond_any t.nano nn ext (.pointer q) _).mono ?_
  rintro e w18 ⟨rfl, hb5⟩
  have hr18 := hr17.below hb5
  have g18 := g17.then_below hb5
  have hs18 : base ≤ w18.heap.size := Nat.le_trans hs4 g18.grown.size
  clear hb5 c0 c1 c2
  go_wp2_with fail
  refine (appendNano_any t.nano 589859 nn (by omega) (by decide) 46 (by decide) w18 hr18 hs18 (by first | omega | (simp only [List.length_append, List.length_cons, List.length_nil]; omega))).mono ?_
  rintro e w19 ⟨v19, rfl, hr19, hg19⟩
  have g19 := g18.trans hg19
  have hs19 : base ≤ w19.heap.size := Nat.le_trans hs4 g19.grown.size
  clear hg19
  go_wp2_with (at_builtin; refine wpList_append_gr _ rfl (.tmp 86) (.tmp 87) 47 rfl 5 i0 (.int .u8 0) Tryd.underlying47 hi hz0 hz1 hz2 rfl rfl (hr19.alloc _) (by simp; omega) ⟨w19.heap.size, 0, none⟩ 1 1 [45] rfl rfl (news_new w19 _ _ _ _ (row1 rfl)) (by first | omega | (simp only [List.length_append, List.length_cons, List.length_nil]; omega)) ?_; intro v20 w20 hr20 hg20)
  have g20 := (g19.alloc (Obj.cells #[.int .u8 45] 5)).trans hg20
  have hs20 : base ≤ w20.heap.size := Nat.le_trans hs4 g20.grown.size
  clear hg20
  refine (appendInt_any (A / 60 / 60) 2 (by omega) (by omega) (by intro; omega) w20 hr20 hs20 (by first | omega | (simp only [List.length_append, List.length_cons, List.length_nil]; omega))).mono ?_
  rintro e w21 ⟨v21, rfl, hr21, hg21⟩
  have g21 := g20.trans hg21
  have hs21 : base ≤ w21.heap.size := Nat.le_trans hs4 g21.grown.size
  clear hg21
  go_wp2_with (at_builtin; refine wpList_append_gr _ rfl (.tmp 98) (.tmp 99) 47 rfl 5 i0 (.int .u8 0) Tryd.underlying47 hi hz0 hz1 hz2 rfl rfl (hr21.alloc _) (by simp; omega) ⟨w21.heap.size, 0, none⟩ 1 1 [58] rfl rfl (news_new w21 _ _ _ _ (row1 rfl)) (by first | omega | (simp only [List.length_append, List.length_cons, List.length_nil]; omega)) ?_; intro v22 w22 hr22 hg22)
  have g22 := (g21.alloc (Obj.cells #[.int .u8 58] 5)).trans hg22
  have hs22 : base ≤ w22.heap.size := Nat.le_trans hs4 g22.grown.size
  clear hg22
  refine (appendInt_any (A / 60 % 60) 2 (by omega) (by omega) (by intro; omega) w22 hr22 hs22 (by first | omega | (simp only [List.length_append, List.length_cons, List.length_nil]; omega))).mono ?_
  rintro e w23 ⟨v23, rfl, hr23, hg23⟩
  have g23 := g22.trans hg23
  have hs23 : base ≤ w23.heap.size := Nat.le_trans hs4 g23.grown.size
  clear hg23
  go_wp2_with fail
  go_ret
  exact ⟨v23, rfl, hr23, (Gr.of_below HB4.out v0).trans g23⟩

theorem appendRFC_told {t : Fs.Tm} (TD : TmD t) (nanos : Bool) (l0 : List UInt8) (hl0 : l0.length ≤ 10000000000) (tv v0 : Value) (base : Nat) (w : World) (HT : Told w tv t.year t.month t.day t.hour t.min t.sec t.nano t.name t.off) (hr : Row w base v0 l0) (hb : base ≤ w.heap.size)
    (hv : ∀ g, v0.ownBlock = some g → g < w.heap.size) :
    Calls Tryd.prog 57 #[tv, v0, .bool nanos] w fun e w' => ∃ v', e = .returned v' ∧ Row w' base v' (l0 ++ Fs.rfc t nanos) ∧ Gr w w' v0 v' := by
  cases nanos
  · rcases TD.ok.o3 with h0 | h0 | h0
    · exact rfc_o_z TD h0 l0 hl0 tv v0 base w HT hr hb hv
    · exact rfc_o_p TD t.off.natAbs (by omega) (by omega) l0 hl0 tv v0 base w HT hr hb hv
    · exact rfc_o_n TD t.off.natAbs (by omega) (by omega) l0 hl0 tv v0 base w HT hr hb hv
  · rcases TD.ok.o3 with h0 | h0 | h0
    · exact rfc_n_z TD h0 l0 hl0 tv v0 base w HT hr hb hv
    · exact rfc_n_p TD t.off.natAbs (by omega) (by omega) l0 hl0 tv v0 base w HT hr hb hv
    · exact rfc_n_n TD t.off.natAbs (by omega) (by omega) l0 hl0 tv v0 base w HT hr hb hv
end Go.Proofs.YtgcjhakhepgjlaaDoor
