/-
  WALKS, parse, part b: what a time tells: Date, Clock, Zone; the thin package's civil.
-/
import Derived.Test.YtgcjhakhepgjlaaDoorT1
namespace Go.Proofs.YtgcjhakhepgjlaaDoor
open Go.RowKit
set_option linter.unusedVariables false
set_option linter.unusedSimpArgs false
attribute [local go_sem] ByteArray.extract_mk get_mk ByteArray.toList_mk ByteArray.mk_append_mk take_drop_len

set_option maxRecDepth 100000 in
theorem TDate_told {w : World} {v : Value} {y : Int} {m d h mi s ns : Nat} {name : List UInt8} {off : Int} (H : Told w v y m d h mi s ns name off) :
    Calls Tryd.prog 29 #[v] w fun e w' => e = .returned (.tuple #[.int .i64 y, .int .i64 m, .int .i64 d]) ∧ Below w.heap.size w w' := by
  obtain ⟨⟨lv, rfl, hTL⟩, hd, hc, o1, o2⟩ := H
  obtain ⟨q, rfl⟩ := hTL.ptr
  unfold timeV
  obtain ⟨ext, hext⟩ : ∃ ext, ext = Fs.isecs y m d h mi s - off := ⟨_, rfl⟩
  have hb1 : Below w.heap.size w (w.alloc (.cells #[.int .u64 (ns : Nat), .int .i64 ext, .pointer q] 41)) := (Below.refl _ _).alloc (Nat.le_refl _) _
  have HT1 : Told (w.alloc (.cells #[.int .u64 (ns : Nat), .int .i64 ext, .pointer q] 41)) (timeV ns ext (.pointer q)) y m d h mi s ns name off :=
    ⟨⟨.pointer q, by rw [hext], hTL.below hb1⟩, hd, hc, o1, o2⟩
  have h1 := absSec_told HT1
  unfold timeV at h1
  have H1 := hide h1
  have H2 := hide (fun w => absN_day hd hc w)
  have H3 := hide (fun w => date_any hd w)
  rw [← hext]
  clear h1 HT1 hTL hext hd hc o1 o2
  go_enter Tryd.func29, Tryd.ntmps29
  go_wp2_with fail
  refine H1.out.mono ?_
  rintro e w1 ⟨rfl, hq⟩
  have b1 := hb1.trans (hq.mono hb1.size)
  clear hq hb1 H1
  go_wp2_with fail
  refine (H2.out _).mono ?_
  rintro e w2 ⟨rfl, hq2⟩
  go_wp2_with fail
  refine (H3.out _).mono ?_
  rintro e w3 ⟨rfl, hq3⟩
  have b3 := (b1.trans (hq2.below _)).trans (hq3.below _)
  clear hq2 hq3 b1
  go_wp2_with fail
  exact bodyPost_ret (v := .tuple #[.int .i64 y, .int .i64 m, .int .i64 d]) (by simp [results, Tryd.results29, go_sem]) rfl ⟨rfl, b3⟩
set_option maxRecDepth 100000 in
theorem TClock_told {w : World} {v : Value} {y : Int} {m d h mi s ns : Nat} {name : List UInt8} {off : Int} (H : Told w v y m d h mi s ns name off) :
    Calls Tryd.prog 30 #[v] w fun e w' => e = .returned (.tuple #[.int .i64 h, .int .i64 mi, .int .i64 s]) ∧ Below w.heap.size w w' := by
  obtain ⟨⟨lv, rfl, hTL⟩, hd, hc, o1, o2⟩ := H
  obtain ⟨q, rfl⟩ := hTL.ptr
  unfold timeV
  obtain ⟨ext, hext⟩ : ∃ ext, ext = Fs.isecs y m d h mi s - off := ⟨_, rfl⟩
  have hb1 : Below w.heap.size w (w.alloc (.cells #[.int .u64 (ns : Nat), .int .i64 ext, .pointer q] 41)) := (Below.refl _ _).alloc (Nat.le_refl _) _
  have HT1 : Told (w.alloc (.cells #[.int .u64 (ns : Nat), .int .i64 ext, .pointer q] 41)) (timeV ns ext (.pointer q)) y m d h mi s ns name off :=
    ⟨⟨.pointer q, by rw [hext], hTL.below hb1⟩, hd, hc, o1, o2⟩
  have h1 := absSec_told HT1
  unfold timeV at h1
  have H1 := hide h1
  have H2 := hide (fun w => absN_clock hd hc w)
  rw [← hext]
  clear h1 HT1 hTL hext hd hc o1 o2
  go_enter Tryd.func30, Tryd.ntmps30
  go_wp2_with fail
  refine H1.out.mono ?_
  rintro e w1 ⟨rfl, hq⟩
  have b1 := hb1.trans (hq.mono hb1.size)
  clear hq hb1 H1
  go_wp2_with fail
  refine (H2.out _).mono ?_
  rintro e w2 ⟨rfl, hq2⟩
  have b2 := b1.trans (hq2.below _)
  clear hq2 b1
  go_wp2_with fail
  exact bodyPost_ret (v := .tuple #[.int .i64 h, .int .i64 mi, .int .i64 s]) (by simp [results, Tryd.results30, go_sem]) rfl ⟨rfl, b2⟩
theorem lookup_tl {w : World} {lv : Value} {name : List UInt8} {off : Int} (h : TL w lv name off) (sec : Int) (h0 : -9000000000000000000 ≤ sec) (h1 : sec ≤ 9000000000000000000) :
    Calls Tryd.prog 45 #[lv, .int .i64 sec] w fun e w' => e = .returned (lookV name off) ∧ Below w.heap.size w w' := by
  rcases h with ⟨rfl, rfl, rfl⟩ | ⟨g, rfl, hF⟩
  · exact lookup_none sec w
  · exact (lookup_fix g name off sec h0 h1 w hF).mono fun e w' ⟨he, hq⟩ => ⟨he, hq.below _⟩
set_option maxRecDepth 100000 in
theorem TZone_told {w : World} {v : Value} {y : Int} {m d h mi s ns : Nat} {name : List UInt8} {off : Int} (H : Told w v y m d h mi s ns name off) :
    Calls Tryd.prog 31 #[v] w fun e w' => e = .returned (.tuple #[.string ⟨name.toArray⟩, .int .i64 off]) ∧ Below w.heap.size w w' := by
  obtain ⟨⟨lv, rfl, hTL⟩, hd, hc, o1, o2⟩ := H
  obtain ⟨q, rfl⟩ := hTL.ptr
  have hbd := Fs.isecs_bd hd hc
  unfold timeV
  obtain ⟨ext, hext⟩ : ∃ ext, ext = Fs.isecs y m d h mi s - off := ⟨_, rfl⟩
  rw [← hext]
  have he0 : -30000000000000000 ≤ ext := by omega
  have he1 : ext ≤ 30000000000000000 := by omega
  have hn := hc.ns1
  have hb1 : Below w.heap.size w (w.alloc (.cells #[.int .u64 (ns : Nat), .int .i64 ext, .pointer q] 41)) := (Below.refl _ _).alloc (Nat.le_refl _) _
  have TC := TCell.new w ns ext (.pointer q) 41
  have hT1 := hTL.below hb1
  have HTL := hide hT1
  have HTC := hide (TC.qt ((Qt.refl _).drew))
  have HU := hide (fun w' T => unixSec_any w.heap.size ns hn ext (by omega) (by omega) (.pointer q) w' T)
  obtain ⟨c0, c1, c2⟩ := TC
  clear hTL hT1 hext hbd
  have he2 : -9000000000000000000 ≤ ext - 62135596800 := by omega
  have he3 : ext - 62135596800 ≤ 9000000000000000000 := by omega
  clear he0 he1
  have HB := hide hb1
  clear hb1
  go_enter Tryd.func31, Tryd.ntmps31
  go_wp2_with fail
  go_region_held3 (fun w' => w'.cell? ⟨w.heap.size, 2, none⟩ = some (.pointer q))
    (first | exact HK.out _ _ ‹_› | go_keep)
    (first
      | (go_at_call 46; refine (HU.out _ HTC.out).mono ?_; rintro e w1 ⟨rfl, hq⟩; have HK := keepC (hq.below _); have HL := hide (lookup_tl (HTL.out.below (((Qt.refl _).drew.trans hq).below _)) (ext - 62135596800) he2 he3); have HB1 := hide (HB.out.trans (((Qt.refl _).drew.trans hq).below _)); clear hq HU)
      | (go_at_call 45; refine HL.out.mono ?_; rintro e w2 ⟨rfl, hq⟩; unfold lookV; have HK2 := keepC hq; clear HK; have HK := HK2; have HB2 := hide (HB1.out.trans (hq.mono HB1.out.size)); clear hq HL))
  go_wp2_with fail
  exact bodyPost_ret (v := .tuple #[.string ⟨name.toArray⟩, .int .i64 off]) (by simp [results, Tryd.results31, go_sem]) rfl ⟨rfl, HB2.out⟩
/-- nine cells of a Civil in block b, that may be written -/
structure OCell (w : World) (b : Nat) (y m d h mi s ns : Int) (name : List UInt8) (off : Int) : Prop where
  c0 : w.cell? ⟨b, 0, none⟩ = some (.int .i64 y)
  c1 : w.cell? ⟨b, 1, none⟩ = some (.int .i64 m)
  c2 : w.cell? ⟨b, 2, none⟩ = some (.int .i64 d)
  c3 : w.cell? ⟨b, 3, none⟩ = some (.int .i64 h)
  c4 : w.cell? ⟨b, 4, none⟩ = some (.int .i64 mi)
  c5 : w.cell? ⟨b, 5, none⟩ = some (.int .i64 s)
  c6 : w.cell? ⟨b, 6, none⟩ = some (.int .i64 ns)
  c7 : w.cell? ⟨b, 7, none⟩ = some (.string ⟨name.toArray⟩)
  c8 : w.cell? ⟨b, 8, none⟩ = some (.int .i64 off)
  f0 : w.frozen? ⟨b, 0, none⟩ = false
  f1 : w.frozen? ⟨b, 1, none⟩ = false
  f2 : w.frozen? ⟨b, 2, none⟩ = false
  f3 : w.frozen? ⟨b, 3, none⟩ = false
  f4 : w.frozen? ⟨b, 4, none⟩ = false
  f5 : w.frozen? ⟨b, 5, none⟩ = false
  f6 : w.frozen? ⟨b, 6, none⟩ = false
  f7 : w.frozen? ⟨b, 7, none⟩ = false
  f8 : w.frozen? ⟨b, 8, none⟩ = false
theorem OCell.below {w w' : World} {b : Nat} {y m d h mi s ns : Int} {name : List UInt8} {off : Int} (H : OCell w b y m d h mi s ns name off) (hb : Below w.heap.size w w') : OCell w' b y m d h mi s ns name off :=
  ⟨Below.cellk hb H.c0, Below.cellk hb H.c1, Below.cellk hb H.c2, Below.cellk hb H.c3, Below.cellk hb H.c4, Below.cellk hb H.c5, Below.cellk hb H.c6, Below.cellk hb H.c7, Below.cellk hb H.c8,
   (hb.frozen (cell_lt H.c0)).trans H.f0, (hb.frozen (cell_lt H.c1)).trans H.f1, (hb.frozen (cell_lt H.c2)).trans H.f2, (hb.frozen (cell_lt H.c3)).trans H.f3, (hb.frozen (cell_lt H.c4)).trans H.f4, (hb.frozen (cell_lt H.c5)).trans H.f5, (hb.frozen (cell_lt H.c6)).trans H.f6, (hb.frozen (cell_lt H.c7)).trans H.f7, (hb.frozen (cell_lt H.c8)).trans H.f8⟩
theorem OCell.other {w : World} {b c i : Nat} {y m d h mi s ns : Int} {name : List UInt8} {off : Int} (H : OCell w b y m d h mi s ns name off) (hne : b ≠ c) (v : Value) : OCell (w.setCell ⟨c, i, none⟩ v) b y m d h mi s ns name off := by
  have e : ∀ j, (w.setCell ⟨c, i, none⟩ v).cell? ⟨b, j, none⟩ = w.cell? ⟨b, j, none⟩ := fun j => World.cell?_setCell_other w _ _ _ (fun e => hne (congrArg Addr.block e).symm)
  have f : ∀ j, (w.setCell ⟨c, i, none⟩ v).frozen? ⟨b, j, none⟩ = w.frozen? ⟨b, j, none⟩ := fun j => World.frozen?_setCell ..
  exact ⟨(e 0).trans H.c0, (e 1).trans H.c1, (e 2).trans H.c2, (e 3).trans H.c3, (e 4).trans H.c4, (e 5).trans H.c5, (e 6).trans H.c6, (e 7).trans H.c7, (e 8).trans H.c8, (f 0).trans H.f0, (f 1).trans H.f1, (f 2).trans H.f2, (f 3).trans H.f3, (f 4).trans H.f4, (f 5).trans H.f5, (f 6).trans H.f6, (f 7).trans H.f7, (f 8).trans H.f8⟩
theorem TCell.other {w : World} {b c i ns : Nat} {ext : Int} {lv : Value} (H : TCell w b ns ext lv) (hne : b ≠ c) (v : Value) : TCell (w.setCell ⟨c, i, none⟩ v) b ns ext lv := by
  have e : ∀ j, (w.setCell ⟨c, i, none⟩ v).cell? ⟨b, j, none⟩ = w.cell? ⟨b, j, none⟩ := fun j => World.cell?_setCell_other w _ _ _ (fun e => hne (congrArg Addr.block e).symm)
  exact ⟨(e 0).trans H.c0, (e 1).trans H.c1, (e 2).trans H.c2⟩
theorem OCell.date {w : World} {b : Nat} {y m d h mi s ns : Int} {name : List UInt8} {off : Int} (H : OCell w b y m d h mi s ns name off) (y' m' d' : Int) :
    OCell (((w.setCell ⟨b, 0, none⟩ (.int .i64 y')).setCell ⟨b, 2, none⟩ (.int .i64 d')).setCell ⟨b, 1, none⟩ (.int .i64 m')) b y' m' d' h mi s ns name off := by
  obtain ⟨c0, c1, c2, c3, c4, c5, c6, c7, c8, f0, f1, f2, f3, f4, f5, f6, f7, f8⟩ := H
  constructor <;> go_simp
theorem OCell.clock {w : World} {b : Nat} {y m d h mi s ns : Int} {name : List UInt8} {off : Int} (H : OCell w b y m d h mi s ns name off) (h' mi' s' : Int) :
    OCell (((w.setCell ⟨b, 3, none⟩ (.int .i64 h')).setCell ⟨b, 4, none⟩ (.int .i64 mi')).setCell ⟨b, 5, none⟩ (.int .i64 s')) b y m d h' mi' s' ns name off := by
  obtain ⟨c0, c1, c2, c3, c4, c5, c6, c7, c8, f0, f1, f2, f3, f4, f5, f6, f7, f8⟩ := H
  constructor <;> go_simp
theorem OCell.zone {w : World} {b : Nat} {y m d h mi s ns : Int} {name : List UInt8} {off : Int} (H : OCell w b y m d h mi s ns name off) (name' : List UInt8) (off' : Int) :
    OCell ((w.setCell ⟨b, 7, none⟩ (.string ⟨name'.toArray⟩)).setCell ⟨b, 8, none⟩ (.int .i64 off')) b y m d h mi s ns name' off' := by
  obtain ⟨c0, c1, c2, c3, c4, c5, c6, c7, c8, f0, f1, f2, f3, f4, f5, f6, f7, f8⟩ := H
  constructor <;> go_simp
set_option maxRecDepth 100000 in
set_option maxHeartbeats 2000000 in
theorem civil_told {w : World} {v : Value} {y : Int} {m d h mi s ns : Nat} {name : List UInt8} {off : Int} (H : Told w v y m d h mi s ns name off) :
    Calls Tryd.prog 17 #[v] w fun e w' => e = .returned (civilV y m d h mi s ns name off) ∧ Below w.heap.size w w' := by
  have HT0 := fun w' (hb : Below w.heap.size w w') => H.below hb
  obtain ⟨⟨lv, rfl, hTL⟩, hd, hc, o1, o2⟩ := H
  obtain ⟨q, rfl⟩ := hTL.ptr
  unfold timeV at *
  generalize Fs.isecs y m d h mi s - off = ext at *
  have C1 := hide (fun w => Nanosecond_any ns hc.ns1 ext (.pointer q) w)
  have C2 := hide (fun w' hb => TDate_told (HT0 w' hb))
  have C3 := hide (fun w' hb => TClock_told (HT0 w' hb))
  have C4 := hide (fun w' hb => TZone_told (HT0 w' hb))
  clear HT0 hTL hd hc o1 o2
  go_enter Tryd.func17, Tryd.ntmps17
  go_wp2_with fail
  have TC0 := (TCell.new w ns ext (.pointer q) 41).below ((Below.refl _ _).alloc (Nat.le_refl _) (.cells #[.int .i64 0, .int .i64 0, .int .i64 0, .int .i64 0, .int .i64 0, .int .i64 0, .int .i64 0, .string ⟨#[]⟩, .int .i64 0] 27))
  have RC0 : OCell ((w.alloc (.cells #[.int .u64 ns, .int .i64 ext, .pointer q] 41)).alloc (.cells #[.int .i64 0, .int .i64 0, .int .i64 0, .int .i64 0, .int .i64 0, .int .i64 0, .int .i64 0, .string ⟨#[]⟩, .int .i64 0] 27)) (w.heap.size + 1) 0 0 0 0 0 0 0 [] 0 := by
    constructor <;> go_simp
  have b0 : Below w.heap.size w ((w.alloc (.cells #[.int .u64 ns, .int .i64 ext, .pointer q] 41)).alloc (.cells #[.int .i64 0, .int .i64 0, .int .i64 0, .int .i64 0, .int .i64 0, .int .i64 0, .int .i64 0, .string ⟨#[]⟩, .int .i64 0] 27)) := ((Below.refl _ _).alloc (Nat.le_refl _) _).alloc (by simp) _
  have H0 := hide b0
  have HR0 := hide RC0
  clear b0 RC0
  refine (C1.out _).mono ?_
  rintro e w1 ⟨rfl, hq⟩
  have H1 := hide (H0.out.trans (hq.mono H0.out.size))
  have HR1 := hide (HR0.out.below hq)
  have hlt : w.heap.size < w1.heap.size := by have := hq.size; simp at this; omega
  have hlt2 : w.heap.size + 1 < w1.heap.size := by have := hq.size; simp at this; omega
  have ba : Below w1.heap.size w1 (w1.alloc (.cells #[.int .i64 0, .int .i64 0, .int .i64 0, .int .i64 0, .int .i64 0, .int .i64 0, .int .i64 ns, .string ⟨#[]⟩, .int .i64 0] 27)) := (Below.refl _ _).alloc (Nat.le_refl _) _
  have hT2 := (TC0.below hq).below ba
  have HR2 := hide (HR1.out.below ba)
  have hO2 : OCell (w1.alloc (.cells #[.int .i64 0, .int .i64 0, .int .i64 0, .int .i64 0, .int .i64 0, .int .i64 0, .int .i64 ns, .string ⟨#[]⟩, .int .i64 0] 27)) w1.heap.size 0 0 0 0 0 0 ns [] 0 := by
    constructor <;> go_simp
  have HO2 := hide hO2
  have H2 := hide (H1.out.trans (ba.mono (Nat.le_of_lt hlt)))
  have HT2 := hide hT2
  obtain ⟨c0, c1, c2⟩ := hT2
  clear hq C1 H0 HR0 TC0 ba HR1 hO2 H1
  go_wp2_with fail
  refine (C2.out _ H2.out).mono ?_
  rintro e w2 ⟨rfl, hq⟩
  have HT3 := hide (HT2.out.below hq)
  have HR3 := hide (HR2.out.below hq)
  have HO3 := hide (HO2.out.below hq)
  have H3 := hide (H2.out.trans (hq.mono H2.out.size))
  clear hq HT2 HR2 HO2 H2 C2 c0 c1 c2
  obtain ⟨o0, o1, o2, o3, o4, o5, o6, o7, o8, f0, f1, f2, f3, f4, f5, f6, f7, f8⟩ := HO3.out
  have HT4 := hide (((HT3.out.other (c := w1.heap.size) (by omega) (i := 0) (.int .i64 y)).other (c := w1.heap.size) (by omega) (i := 2) (.int .i64 d)).other (c := w1.heap.size) (by omega) (i := 1) (.int .i64 m))
  have HR4 := hide (((HR3.out.other (c := w1.heap.size) (by omega) (i := 0) (.int .i64 y)).other (c := w1.heap.size) (by omega) (i := 2) (.int .i64 d)).other (c := w1.heap.size) (by omega) (i := 1) (.int .i64 m))
  have HO4 := hide (HO3.out.date y m d)
  have H4 := hide (((H3.out.setCell (p := ⟨w1.heap.size, 0, none⟩) (Nat.le_of_lt hlt) (.int .i64 y)).setCell (p := ⟨w1.heap.size, 2, none⟩) (Nat.le_of_lt hlt) (.int .i64 d)).setCell (p := ⟨w1.heap.size, 1, none⟩) (Nat.le_of_lt hlt) (.int .i64 m))
  obtain ⟨c0, c1, c2⟩ := HT4.out
  clear HT3 HR3 HO3 H3
  go_wp2_with fail
  refine (C3.out _ H4.out).mono ?_
  rintro e w3 ⟨rfl, hq⟩
  have HT5 := hide (HT4.out.below hq)
  have HR5 := hide (HR4.out.below hq)
  have HO5 := hide (HO4.out.below hq)
  have H5 := hide (H4.out.trans (hq.mono H4.out.size))
  clear hq HT4 HR4 HO4 H4 C3 c0 c1 c2 o0 o1 o2 o3 o4 o5 o6 o7 o8 f0 f1 f2 f3 f4 f5 f6 f7 f8
  obtain ⟨o0, o1, o2, o3, o4, o5, o6, o7, o8, f0, f1, f2, f3, f4, f5, f6, f7, f8⟩ := HO5.out
  have HT6 := hide (((HT5.out.other (c := w1.heap.size) (by omega) (i := 3) (.int .i64 h)).other (c := w1.heap.size) (by omega) (i := 4) (.int .i64 mi)).other (c := w1.heap.size) (by omega) (i := 5) (.int .i64 s))
  have HR6 := hide (((HR5.out.other (c := w1.heap.size) (by omega) (i := 3) (.int .i64 h)).other (c := w1.heap.size) (by omega) (i := 4) (.int .i64 mi)).other (c := w1.heap.size) (by omega) (i := 5) (.int .i64 s))
  have HO6 := hide (HO5.out.clock h mi s)
  have H6 := hide (((H5.out.setCell (p := ⟨w1.heap.size, 3, none⟩) (Nat.le_of_lt hlt) (.int .i64 h)).setCell (p := ⟨w1.heap.size, 4, none⟩) (Nat.le_of_lt hlt) (.int .i64 mi)).setCell (p := ⟨w1.heap.size, 5, none⟩) (Nat.le_of_lt hlt) (.int .i64 s))
  obtain ⟨c0, c1, c2⟩ := HT6.out
  clear HT5 HR5 HO5 H5
  go_wp2_with fail
  refine (C4.out _ H6.out).mono ?_
  rintro e w4 ⟨rfl, hq⟩
  have HT7 := hide (HT6.out.below hq)
  have HR7 := hide (HR6.out.below hq)
  have HO7 := hide (HO6.out.below hq)
  have H7 := hide (H6.out.trans (hq.mono H6.out.size))
  clear hq HT6 HR6 HO6 H6 C4 c0 c1 c2 o0 o1 o2 o3 o4 o5 o6 o7 o8 f0 f1 f2 f3 f4 f5 f6 f7 f8
  obtain ⟨o0, o1, o2, o3, o4, o5, o6, o7, o8, f0, f1, f2, f3, f4, f5, f6, f7, f8⟩ := HO7.out
  have HR8 := hide ((HR7.out.other (c := w1.heap.size) (by omega) (i := 7) (.string ⟨name.toArray⟩)).other (c := w1.heap.size) (by omega) (i := 8) (.int .i64 off))
  have HO8 := hide (HO7.out.zone name off)
  have H8 := hide ((H7.out.setCell (p := ⟨w1.heap.size, 7, none⟩) (Nat.le_of_lt hlt) (.string ⟨name.toArray⟩)).setCell (p := ⟨w1.heap.size, 8, none⟩) (Nat.le_of_lt hlt) (.int .i64 off))
  obtain ⟨r0, r1, r2, r3, r4, r5, r6, r7, r8, s0, s1, s2, s3, s4, s5, s6, s7, s8⟩ := HR8.out
  obtain ⟨p0, p1, p2, p3, p4, p5, p6, p7, p8, -, -, -, -, -, -, -, -, -⟩ := HO8.out
  clear HT7 HR7 HO7 H7 HR8 HO8
  go_wp2_with fail
  refine bodyPost_ret (v := civilV y m d h mi s ns name off) ?_ rfl ?_
  · simp [results, Tryd.results17, go_sem, civilV, r0, r1, r2, r3, r4, r5, r6, r7, r8]
  · exact ⟨rfl, (((((((((H8.out.setCell (Nat.le_succ _) _).setCell (Nat.le_succ _) _).setCell (Nat.le_succ _) _).setCell (Nat.le_succ _) _).setCell (Nat.le_succ _) _).setCell (Nat.le_succ _) _).setCell (Nat.le_succ _) _).setCell (Nat.le_succ _) _).setCell (Nat.le_succ _) _)⟩
end Go.Proofs.YtgcjhakhepgjlaaDoor
