/-
  WALKS, times, part u: AppendFormat, Format, String.
-/
import Derived.Test.YtgcjhakhepgjlaaDoorUk
import Derived.Laws.MakeOwn
import Derived.Test.YtgcjhakhepgjlaaDoorS1
import Derived.Deep.RegionHeld3
namespace Go.Proofs.YtgcjhakhepgjlaaDoor
open Go.RowKit
set_option linter.unusedVariables false
set_option linter.unusedSimpArgs false
attribute [local go_sem] ByteArray.extract_mk get_mk ByteArray.toList_mk ByteArray.mk_append_mk take_drop_len

set_option maxRecDepth 100000 in
set_option maxHeartbeats 4000000 in
theorem AppendFormat_told {t : Fs.Tm} (TD : TmD t) (lay l0 : List UInt8) (hlay : lay.length ≤ 10000000) (hl0 : l0.length ≤ 10000000000) (tv v0 : Value) (base : Nat) (w : World) (E : HStd w) (HT : Told w tv t.year t.month t.day t.hour t.min t.sec t.nano t.name t.off) (hr : Row w base v0 l0) (hb : base ≤ w.heap.size)
    (hg : v0.ownBlock ≠ some 3) (hv : ∀ g, v0.ownBlock = some g → g < w.heap.size) :
    Calls Tryd.prog 59 #[tv, v0, .string ⟨lay.toArray⟩] w fun e w' => ∃ v', e = .returned v' ∧ Row w' base v' (l0 ++ Fs.fmt t lay) ∧ Gr w w' v0 v' := by
  obtain ⟨⟨lv, rfl, hTL⟩, hd, hc, o1, o2⟩ := HT
  obtain ⟨q, rfl⟩ := hTL.ptr
  unfold timeV
  obtain ⟨ext, hext⟩ : ∃ ext, ext = Fs.isecs (t.year : Int) t.month t.day t.hour t.min t.sec - t.off := ⟨_, rfl⟩
  have hb1 : Below w.heap.size w (w.alloc (.cells #[.int .u64 (t.nano : Nat), .int .i64 ext, .pointer q] 41)) := (Below.refl _ _).alloc (Nat.le_refl _) _
  have HT1 : Told (w.alloc (.cells #[.int .u64 (t.nano : Nat), .int .i64 ext, .pointer q] 41)) (timeV t.nano ext (.pointer q)) t.year t.month t.day t.hour t.min t.sec t.nano t.name t.off :=
    ⟨⟨.pointer q, by rw [hext], hTL.below hb1⟩, hd, hc, o1, o2⟩
  have hr1 := hr.below hb1
  have hbb := hb1.size
  have E1 := E.below hb1
  have hv1 : ∀ g, v0.ownBlock = some g → g < (w.alloc (.cells #[.int .u64 (t.nano : Nat), .int .i64 ext, .pointer q] 41)).heap.size := fun g h => Nat.lt_of_lt_of_le (hv g h) hbb
  have HG := hide (Gr.of_below hb1 v0)
  have h1 := appendRFC_told TD false l0 hl0 _ v0 base _ HT1 hr1 (Nat.le_trans hb hbb) hv1
  have h2 := appendRFC_told TD true l0 hl0 _ v0 base _ HT1 hr1 (Nat.le_trans hb hbb) hv1
  have h3 := appendFormat_told TD lay l0 hlay hl0 _ v0 base _ E1 HT1 hr1 (Nat.le_trans hb hbb) hg hv1
  unfold timeV at h1 h2 h3
  have H1 := hide h1
  have H2 := hide h2
  have H3 := hide h3
  rw [← hext]
  clear h1 h2 h3 hv1 E1 hr1 HT1 hb1 hext hTL hd hc o1 o2 hr hv hg hb E hbb
  by_cases hL1 : lay = Fs.rfcL
  · subst hL1
    rw [Fs.fmt_rfc]
    unfold Fs.rfcL
    go_enter Tryd.func59, Tryd.ntmps59
    go_wp2_with fail
    refine H1.out.mono ?_
    rintro e w2 ⟨v2, rfl, hr2, hg2⟩
    go_wp2_with fail
    go_ret
    exact ⟨v2, rfl, hr2, HG.out.trans hg2⟩
  by_cases hL2 : lay = Fs.rfcN
  · subst hL2
    rw [Fs.fmt_rfcN]
    unfold Fs.rfcN
    clear hL1
    go_enter Tryd.func59, Tryd.ntmps59
    go_wp2_with fail
    refine H2.out.mono ?_
    rintro e w2 ⟨v2, rfl, hr2, hg2⟩
    go_wp2_with fail
    go_ret
    exact ⟨v2, rfl, hr2, HG.out.trans hg2⟩
  unfold Fs.rfcL at hL1
  unfold Fs.rfcN at hL2
  have e1 := beq_eq_false_iff_ne.2 hL1
  have e2 := beq_eq_false_iff_ne.2 hL2
  clear hL1 hL2
  go_enter Tryd.func59, Tryd.ntmps59
  go_wp2_with fail
  refine H3.out.mono ?_
  rintro e w2 ⟨v2, rfl, hr2, hg2⟩
  go_wp2_with fail
  go_ret
  exact ⟨v2, rfl, hr2, HG.out.trans hg2⟩

/-- a new block of bytes, as an empty row -/
theorem row_blank (W : World) (Z : Array Value) (t : TypeId) (n : Nat) (hZ : Z.size = n) (hn : n ≤ maxLen) : Row (W.alloc (.cells Z t)) W.heap.size (.slice (some ⟨W.heap.size, 0, none⟩) 0 n) [] := by
  have hh : (W.alloc (.cells Z t)).heap[W.heap.size]? = some (.cells Z t (0, 0)) := heap_alloc_new W _
  refine ⟨W.heap.size, 0, n, rfl, Nat.le_refl _, Nat.zero_le _, hn, fun j hj => absurd hj (by simp), fun j hj => ?_⟩
  rw [Nat.zero_add]
  refine ⟨?_, frozen_of_row _ _ j _ t hh⟩
  rw [cell_of_row _ _ j _ t (0, 0) hh, Array.getElem?_eq_getElem (by omega)]
  rfl
theorem make_row (W : World) (n : Nat) (h : n ≤ 100000000) : ∃ Z : Array Value, Z.size = n ∧ (Instr.makeSlice 47 (.int .i64 0) (.int .i64 (n : Int))).run Tryd.prog W = .ok (.slice (some ⟨W.heap.size, 0, none⟩) 0 n) (W.alloc (.cells Z 5)) := by
  obtain ⟨i0, hi, hz0, hz1, hz2⟩ := info_parts info_u8
  have hr := run_make (P := Tryd.prog) W 47 5 i0 (.int .u8 0) Tryd.underlying47 hi hz0 .i64 .i64 0 (n : Int) (Int.le_refl _) (by omega) (by rw [hz2]; omega) (by omega)
  simp only [Int.toNat_zero, Int.toNat_natCast] at hr
  exact ⟨_, by rw [size_madeCells, hz1, Nat.mul_one], hr⟩
set_option maxRecDepth 100000 in
set_option maxHeartbeats 4000000 in
theorem TFormat_told {t : Fs.Tm} (TD : TmD t) (lay : List UInt8) (hlay : lay.length ≤ 10000000) (tv : Value) (w : World) (E : HStd w) (HT : Told w tv t.year t.month t.day t.hour t.min t.sec t.nano t.name t.off) :
    Calls Tryd.prog 38 #[tv, .string ⟨lay.toArray⟩] w fun e w' => e = .returned (.string ⟨(Fs.fmt t lay).toArray⟩) ∧ Below w.heap.size w w' := by
  have hstd := cell_lt E.1
  obtain ⟨⟨lv, rfl, hTL⟩, hd, hc, o1, o2⟩ := HT
  obtain ⟨q, rfl⟩ := hTL.ptr
  unfold timeV
  obtain ⟨ext, hext⟩ : ∃ ext, ext = Fs.isecs (t.year : Int) t.month t.day t.hour t.min t.sec - t.off := ⟨_, rfl⟩
  obtain ⟨W, hW⟩ : ∃ W, W = w.alloc (.cells #[.int .u64 (t.nano : Nat), .int .i64 ext, .pointer q] 41) := ⟨_, rfl⟩
  have hb1 : Below w.heap.size w W := by rw [hW]; exact (Below.refl _ _).alloc (Nat.le_refl _) _
  have hWs : W.heap.size = w.heap.size + 1 := by rw [hW]; simp
  have hfin : ∀ (Z : Array Value) (ty : TypeId) (n : Nat), Z.size = n → n ≤ maxLen →
      Calls Tryd.prog 59 #[.agg #[.int .u64 (t.nano : Nat), .int .i64 ext, .pointer q], .slice (some ⟨w.heap.size + 1, 0, none⟩) 0 n, .string ⟨lay.toArray⟩] (W.alloc (.cells Z ty)) fun e w' => ∃ g off cap, e = .returned (.slice (some ⟨g, off, none⟩) (Fs.fmt t lay).length cap) ∧ RowAt w' w.heap.size (Fs.fmt t lay) g off cap ∧ Below w.heap.size w w' := by
    intro Z ty n hZ hn
    have hb2 := hb1.alloc (by omega) (.cells Z ty)
    have HT2 : Told (W.alloc (.cells Z ty)) (timeV t.nano ext (.pointer q)) t.year t.month t.day t.hour t.min t.sec t.nano t.name t.off := ⟨⟨.pointer q, by rw [hext], hTL.below hb2⟩, hd, hc, o1, o2⟩
    have hr := row_blank W Z ty n hZ hn
    rw [hWs] at hr
    have hz : (W.alloc (.cells Z ty)).heap.size = w.heap.size + 2 := by simp [hWs]
    refine (AppendFormat_told TD lay [] hlay (by simp) _ _ (w.heap.size + 1) _ (E.below hb2) HT2 hr (by omega) ?_ ?_).mono ?_
    · intro e
      have : w.heap.size + 1 = 3 := Option.some.inj e
      simp only at hstd
      omega
    · intro g e
      have : w.heap.size + 1 = g := Option.some.inj e
      omega
    · rintro e w' ⟨v', rfl, hr', hg'⟩
      rw [List.nil_append] at hr'
      have hbw := hb2.trans (hg'.below (base := w.heap.size) (by omega) (fun g e => by
        have : w.heap.size + 1 = g := Option.some.inj e
        omega))
      obtain ⟨g, off, cap, rfl, h1, h2, h3, h4, h5⟩ := hr'
      exact ⟨g, off, cap, rfl, ⟨by omega, h2, h3, h4, h5⟩, hbw⟩
  generalize Fs.fmt t lay = T at hfin ⊢
  have HF := hide hfin
  rw [← hext]
  clear hfin hext hTL hd hc o1 o2 hb1
  obtain ⟨Z, hZ, hmk⟩ := make_row W (lay.length + 10) (by omega)
  rw [hWs, show ((lay.length + 10 : Nat) : Int) = (lay.length : Int) + 10 by omega] at hmk
  by_cases hlen : (lay.length : Int) + 10 < 64
  · clear hmk hWs
    subst hW
    go_enter Tryd.func38, Tryd.ntmps38
    go_wp2_with fail
    refine (HF.out _ _ 64 rfl (by simp [maxLen])).mono ?_
    rintro e w2 ⟨g, off, cap, rfl, hrow, hb2⟩
    have hcv := string_row (P := Tryd.prog) w2 47 9 5 hrow Tryd.underlying47 Tryd.underlying5 Tryd.underlying9
    clear hrow HF
    go_wp2_with fail
    go_ret
    exact ⟨rfl, hb2⟩
  · subst hW
    go_enter Tryd.func38, Tryd.ntmps38
    go_wp2_with fail
    refine (HF.out Z _ (lay.length + 10) hZ (by simp [maxLen]; omega)).mono ?_
    rintro e w2 ⟨g, off, cap, rfl, hrow, hb2⟩
    have hcv := string_row (P := Tryd.prog) w2 47 9 5 hrow Tryd.underlying47 Tryd.underlying5 Tryd.underlying9
    clear hrow HF hmk
    go_wp2_with fail
    go_ret
    exact ⟨rfl, hb2⟩
end Go.Proofs.YtgcjhakhepgjlaaDoor

/-
  WALKS: the thin package's Format and String; the laws' writes.
-/
namespace Go.Proofs.YtgcjhakhepgjlaaDoor
open Go.RowKit
set_option linter.unusedVariables false
set_option linter.unusedSimpArgs false
attribute [local go_sem] ByteArray.extract_mk get_mk ByteArray.toList_mk ByteArray.mk_append_mk take_drop_len

theorem CivF.ok {y m d h mi s ns : Int} {name : List UInt8} {off : Int} {Y M D Hh Mi S Ns : Nat} (CF : CivF y m d h mi s ns name off Y M D Hh Mi S Ns) : Fs.civilOk y m d h mi s ns name off = true := by
  obtain ⟨rfl, rfl, rfl, rfl, rfl, rfl, rfl, y9, ⟨m1, m2, d1, d2, _, _⟩, ⟨h1, mi1, s1, ns1⟩, n0, n1, o1, o2, o3, utc⟩ := CF
  simp only [Fs.civilOk, Fs.dateOk, Fs.zoneOk, Bool.and_eq_true, Fs.within_iff, decide_eq_true_eq, Bool.or_eq_true, beq_iff_eq, Bool.not_eq_true', bne_iff_ne, ne_eq, Int.toNat_natCast]
  refine ⟨⟨⟨by omega, by omega⟩, ⟨by omega, by omega⟩, by omega, by omega⟩, ⟨by omega, by omega⟩, ⟨by omega, by omega⟩, ⟨by omega, by omega⟩, ⟨by omega, by omega⟩, ?_, n1, ⟨by omega, by omega⟩, ?_, ?_⟩
  · cases name with
    | nil => exact absurd rfl n0
    | cons _ _ => rfl
  · rcases o3 with h | h | h
    · exact .inl h
    · exact .inr (.inl h)
    · exact .inr (.inr h)
  · by_cases hu : name = [85, 84, 67]
    · exact .inr (utc hu)
    · exact .inl hu
theorem CivF.eqs {y m d h mi s ns : Int} {name : List UInt8} {off : Int} {Y M D Hh Mi S Ns : Nat} (CF : CivF y m d h mi s ns name off Y M D Hh Mi S Ns) : y = Y ∧ m = M ∧ d = D ∧ h = Hh ∧ mi = Mi ∧ s = S ∧ ns = Ns :=
  ⟨CF.ey, CF.em, CF.ed, CF.eh, CF.emi, CF.es, CF.ens⟩

/-- what a law's walk carries from call to call -/
structure LawI (w w' : World) : Prop where
  std : HStd w'
  bel : Below w.heap.size w w'
theorem LawI.step {w w1 w2 : World} (h : LawI w w1) (hb : Below w1.heap.size w1 w2) : LawI w w2 := ⟨h.std.below hb, h.bel.trans (hb.mono h.bel.size)⟩
theorem Format_any {name : List UInt8} {off : Int} {Y M D Hh Mi S Ns : Nat} (CF : CivF Y M D Hh Mi S Ns name off Y M D Hh Mi S Ns) (L : List UInt8) (hL : L.length ≤ 10000000) (w : World) (E : HStd w) :
    Calls Tryd.prog 24 #[civilV (Y : Int) (M : Int) (D : Int) (Hh : Int) (Mi : Int) (S : Int) (Ns : Int) name off, .string ⟨L.toArray⟩] w fun e w' => e = .returned (.string ⟨(Fs.fmt (tmOf Y M D Hh Mi S Ns name off) L).toArray⟩) ∧ Below w.heap.size w w' := by
  have TD := CF.tmd
  have o1 := CF.o1
  have o2 := CF.o2
  have hat := fun w => at_any CF.date CF.clock (name := name) (off := off) (by omega) (by omega) w
  have HAT := hide hat
  have HTD := hide TD
  clear hat TD CF
  have b0 := ((Below.refl w.heap.size w).alloc (Nat.le_refl _) (Obj.cells #[.int .i64 (Y : Int), .int .i64 (M : Int), .int .i64 (D : Int), .int .i64 (Hh : Int), .int .i64 (Mi : Int), .int .i64 (S : Int), .int .i64 (Ns : Int), .string ⟨name.toArray⟩, .int .i64 off] 27))
  unfold civilV at *
  go_enter Tryd.func24, Tryd.ntmps24
  go_wp2_with fail
  refine (HAT.out _).mono ?_
  rintro e w1 ⟨v, rfl, hT, hq⟩
  have b1 := b0.trans (hq.mono (by simp))
  have hf := TFormat_told HTD.out L hL v w1 (E.below b1) hT
  have HF := hide hf
  clear hf hT hq b0 HAT HTD
  go_wp2_with fail
  refine HF.out.mono ?_
  rintro e w2 ⟨rfl, hq⟩
  have b2 := b1.trans (hq.mono b1.size)
  clear hq b1 HF
  go_wp2_with fail
  go_ret
  exact ⟨rfl, b2⟩
def strL : List UInt8 := [50, 48, 48, 54, 45, 48, 49, 45, 48, 50, 32, 49, 53, 58, 48, 52, 58, 48, 53, 46, 57, 57, 57, 57, 57, 57, 57, 57, 57, 32, 45, 48, 55, 48, 48, 32, 77, 83, 84]
set_option maxRecDepth 100000 in
theorem TString_told {t : Fs.Tm} (TD : TmD t) (tv : Value) (w : World) (E : HStd w) (HT : Told w tv t.year t.month t.day t.hour t.min t.sec t.nano t.name t.off) :
    Calls Tryd.prog 39 #[tv] w fun e w' => e = .returned (.string ⟨(Fs.fmt t strL).toArray⟩) ∧ Below w.heap.size w w' := by
  obtain ⟨⟨lv, rfl, hTL⟩, hd, hc, o1, o2⟩ := HT
  obtain ⟨q, rfl⟩ := hTL.ptr
  unfold timeV
  obtain ⟨ext, hext⟩ : ∃ ext, ext = Fs.isecs (t.year : Int) t.month t.day t.hour t.min t.sec - t.off := ⟨_, rfl⟩
  have hb1 : Below w.heap.size w (w.alloc (.cells #[.int .u64 (t.nano : Nat), .int .i64 ext, .pointer q] 41)) := (Below.refl _ _).alloc (Nat.le_refl _) _
  have HT1 : Told (w.alloc (.cells #[.int .u64 (t.nano : Nat), .int .i64 ext, .pointer q] 41)) (timeV t.nano ext (.pointer q)) t.year t.month t.day t.hour t.min t.sec t.nano t.name t.off :=
    ⟨⟨.pointer q, by rw [hext], hTL.below hb1⟩, hd, hc, o1, o2⟩
  have TC := TCell.new w t.nano ext (.pointer q) 41
  have hf := TFormat_told TD strL (by decide) _ _ (E.below hb1) HT1
  unfold timeV at hf
  have HF := hide hf
  have HTC := hide TC
  have hnm := no_mono t.nano hc.ns1
  rw [← hext]
  clear hf TC HT1 hTL hext hd hc o1 o2 TD E
  go_enter Tryd.func39, Tryd.ntmps39
  go_wp2_with fail
  refine HF.out.mono ?_
  rintro e w2 ⟨rfl, hq⟩
  obtain ⟨c0, c1, c2⟩ := HTC.out.below hq
  have b2 := hb1.trans (hq.mono (by simp))
  clear hq hb1 HF HTC
  go_wp2_with fail
  go_ret
  exact ⟨rfl, b2⟩
theorem String_any {name : List UInt8} {off : Int} {Y M D Hh Mi S Ns : Nat} (CF : CivF Y M D Hh Mi S Ns name off Y M D Hh Mi S Ns) (w : World) (E : HStd w) :
    Calls Tryd.prog 25 #[civilV (Y : Int) (M : Int) (D : Int) (Hh : Int) (Mi : Int) (S : Int) (Ns : Int) name off] w fun e w' => e = .returned (.string ⟨(Fs.fmt (tmOf Y M D Hh Mi S Ns name off) strL).toArray⟩) ∧ Below w.heap.size w w' := by
  have TD := CF.tmd
  have o1 := CF.o1
  have o2 := CF.o2
  have hat := fun w => at_any CF.date CF.clock (name := name) (off := off) (by omega) (by omega) w
  have HAT := hide hat
  have HTD := hide TD
  clear hat TD CF
  have b0 := ((Below.refl w.heap.size w).alloc (Nat.le_refl _) (Obj.cells #[.int .i64 (Y : Int), .int .i64 (M : Int), .int .i64 (D : Int), .int .i64 (Hh : Int), .int .i64 (Mi : Int), .int .i64 (S : Int), .int .i64 (Ns : Int), .string ⟨name.toArray⟩, .int .i64 off] 27))
  unfold civilV at *
  go_enter Tryd.func25, Tryd.ntmps25
  go_wp2_with fail
  refine (HAT.out _).mono ?_
  rintro e w1 ⟨v, rfl, hT, hq⟩
  have b1 := b0.trans (hq.mono (by simp))
  have hf := TString_told HTD.out v w1 (E.below b1) hT
  have HF := hide hf
  clear hf hT hq b0 HAT HTD
  go_wp2_with fail
  refine HF.out.mono ?_
  rintro e w2 ⟨rfl, hq⟩
  have b2 := b1.trans (hq.mono b1.size)
  clear hq b1 HF
  go_wp2_with fail
  go_ret
  exact ⟨rfl, b2⟩
def fewT (h : Nat) : Fs.Tm := tmOf 2006 1 2 h 0 0 0 [85, 84, 67] 0
theorem fmt_few : Fs.fmt (fewT 15) [50, 48, 48, 54, 32, 49, 53] = [50, 48, 48, 54, 32, 49, 53] := by
  have h := Fs.fmt_of (fewT 15) (ps := [Fs.pk 1, Fs.pt [32], Fs.pk 14]) (by decide)
  have hl : Fs.layout [Fs.pk 1, Fs.pt [32], Fs.pk 14] = [50, 48, 48, 54, 32, 49, 53] := by decide
  rw [hl] at h
  rw [h]
  simp only [Fs.written, List.flatMap_cons, List.flatMap_nil, Fs.wr, Fs.pk, Fs.pt]
  simp [Fs.codeOf, Fs.elem, fewT, tmOf, Fs.dg_four, Fs.dg_two]
theorem fmt_few_ne : ∃ c r, Fs.fmt (fewT 0) strL = c :: r := by
  have hn : Fs.next strL = ([], 275, List.drop 4 strL) := by decide
  have h := Fs.fmt_on (t := fewT 0) (l := strL) (by rw [hn]; decide)
  rw [hn] at h
  have he : Fs.elem (fewT 0) 275 = [50, 48, 48, 54] := by
    have : Fs.elem (fewT 0) 275 = Fs.dg 4 2006 := by simp [Fs.elem, fewT, tmOf]
    rw [this, Fs.dg_four (by omega)]
    rfl
  rw [he] at h
  exact ⟨_, _, h⟩
theorem few_civ (h : Nat) (hh : h ≤ 23) : CivF (2006 : Nat) (1 : Nat) (2 : Nat) h (0 : Nat) (0 : Nat) (0 : Nat) [85, 84, 67] 0 2006 1 2 h 0 0 0 :=
  ⟨rfl, rfl, rfl, rfl, rfl, rfl, rfl, by omega, ⟨by omega, by omega, by omega, by decide, by omega, by omega⟩, ⟨hh, by omega, by omega, by omega⟩, by simp, by simp, by omega, by omega, .inl rfl, fun _ => rfl⟩
theorem writes_any (w : World) (E : HStd w) : Calls Tryd.prog 14 #[] w fun e w' => e = .returned (.bool true) ∧ Below w.heap.size w w' := by
  have h1 := fun w E => Format_any (few_civ 15 (by omega)) [50, 48, 48, 54, 32, 49, 53] (by decide) w E
  have h2 := fun w E => String_any (few_civ 0 (by omega)) w E
  obtain ⟨c, r, hne⟩ := fmt_few_ne
  have hf := fmt_few
  unfold fewT at hne hf
  rw [hf] at h1
  rw [hne] at h2
  unfold civilV at h1 h2
  have H1 := hide h1
  have H2 := hide h2
  clear h1 h2 hne hf
  go_enter Tryd.func14, Tryd.ntmps14
  go_wp2_with fail
  refine (H1.out _ E).mono ?_
  rintro e w1 ⟨rfl, hq⟩
  have E1 := E.below hq
  go_wp2_with fail
  refine (H2.out _ E1).mono ?_
  rintro e w2 ⟨rfl, hq2⟩
  have b2 := hq.trans (hq2.mono hq.size)
  clear hq hq2 E1 H1 H2
  go_wp2_with fail
  go_ret
  exact ⟨rfl, b2⟩
end Go.Proofs.YtgcjhakhepgjlaaDoor
