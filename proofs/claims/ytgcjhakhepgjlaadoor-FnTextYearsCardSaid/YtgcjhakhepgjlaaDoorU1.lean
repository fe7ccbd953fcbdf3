/-
  WALKS, times, part u: appendFormat's elements: numbers (printed by wip/py/gen_fmt.py).
-/
import Derived.Test.YtgcjhakhepgjlaaDoorT3
namespace Go.Proofs.YtgcjhakhepgjlaaDoor
open Go.RowKit
set_option linter.unusedVariables false
set_option linter.unusedSimpArgs false
attribute [local go_sem] ByteArray.extract_mk get_mk ByteArray.toList_mk ByteArray.mk_append_mk take_drop_len

set_option maxRecDepth 100000 in
set_option maxHeartbeats 4000000 in
theorem st_276 (t : Fs.Tm) (ht : TmOk t) (F : Fr) (h11 : F.y = .int .i64 (t.year : Nat)) {base : Nat} {v : Value} {l : List UInt8} (w : World) (hr : Row w base v l) (hb : base ≤ w.heap.size) (hl : l.length ≤ 70368744170000)
    (a : Act) (hA : AF a v F) (h19 : a.tmps.getD 19 undef = .int .i64 (276)) (Q : Exit → Act → World → Prop) (HL : Left t (276) F base v l w Q) : Code.wp Tryd.prog af22 Q a w := by
  obtain ⟨i0, hi, hz0, hz1, hz2⟩ := info_parts info_u8
  obtain ⟨y1, m1, m2, dd, yd, wd, hh, mm, ss, nn, nl, o1, o2, o3⟩ := ht
  have hm : bits BinOp.and IntKind.i64 276 65535 = 276 := by decide
  have HE : Hid (Fs.elem t 276 = Fs.dg 2 (t.year % 100)) := by show _ = _; unfold Fs.elem; simp
  obtain ⟨k0, k1, h1, k2, k3, k7, k8, k9, k10, k11, k12, k13, k14, k15, k16, k17⟩ := hA
  obtain ⟨u, hu, ha⟩ := lay393 a k0 k1
  rw [hu] at h1 h19 k2 k3 k7 k8 k9 k10 k11 k12 k13 k14 k15 k16 k17
  have g11 := k11.trans h11
  rw [ha, h1, h19, g11]
  have K2 := hide k2
  have K3 := hide k3
  have K7 := hide k7
  have K8 := hide k8
  have K9 := hide k9
  have K10 := hide k10
  have K11 := hide k11
  have K12 := hide k12
  have K13 := hide k13
  have K14 := hide k14
  have K15 := hide k15
  have K16 := hide k16
  have K17 := hide k17
  have G11 := hide g11
  clear ha hu k0 k1 h1 h19 k2 k3 k7 k8 k9 k10 k11 k12 k13 k14 k15 k16 k17 g11 h11
  conv => arg 2; whnf
  go_wp2_with fail
  refine (appendInt_any (t.year % 100) 2 (by omega) (by omega) (by intro; omega) w hr hb (by omega)).mono ?_
  rintro e w2 ⟨v2, rfl, hr2, hg2⟩
  go_wp2_with fail
  exact HL _ _ _ ⟨rfl, rfl, rfl, K2.out, K3.out, K7.out, K8.out, K9.out, K10.out, G11.out.symm.trans K11.out, K12.out, K13.out, K14.out, K15.out, K16.out, K17.out⟩ (by rw [HE.out]; exact hr2) hg2

set_option maxRecDepth 100000 in
set_option maxHeartbeats 4000000 in
theorem st_275 (t : Fs.Tm) (ht : TmOk t) (F : Fr) (h11 : F.y = .int .i64 (t.year : Nat)) {base : Nat} {v : Value} {l : List UInt8} (w : World) (hr : Row w base v l) (hb : base ≤ w.heap.size) (hl : l.length ≤ 70368744170000)
    (a : Act) (hA : AF a v F) (h19 : a.tmps.getD 19 undef = .int .i64 (275)) (Q : Exit → Act → World → Prop) (HL : Left t (275) F base v l w Q) : Code.wp Tryd.prog af22 Q a w := by
  obtain ⟨i0, hi, hz0, hz1, hz2⟩ := info_parts info_u8
  obtain ⟨y1, m1, m2, dd, yd, wd, hh, mm, ss, nn, nl, o1, o2, o3⟩ := ht
  have hm : bits BinOp.and IntKind.i64 275 65535 = 275 := by decide
  have HE : Hid (Fs.elem t 275 = Fs.dg 4 (t.year)) := by show _ = _; unfold Fs.elem; simp
  obtain ⟨k0, k1, h1, k2, k3, k7, k8, k9, k10, k11, k12, k13, k14, k15, k16, k17⟩ := hA
  obtain ⟨u, hu, ha⟩ := lay393 a k0 k1
  rw [hu] at h1 h19 k2 k3 k7 k8 k9 k10 k11 k12 k13 k14 k15 k16 k17
  have g11 := k11.trans h11
  rw [ha, h1, h19, g11]
  have K2 := hide k2
  have K3 := hide k3
  have K7 := hide k7
  have K8 := hide k8
  have K9 := hide k9
  have K10 := hide k10
  have K11 := hide k11
  have K12 := hide k12
  have K13 := hide k13
  have K14 := hide k14
  have K15 := hide k15
  have K16 := hide k16
  have K17 := hide k17
  have G11 := hide g11
  clear ha hu k0 k1 h1 h19 k2 k3 k7 k8 k9 k10 k11 k12 k13 k14 k15 k16 k17 g11 h11
  conv => arg 2; whnf
  go_wp2_with fail
  refine (appendInt_any (t.year) 4 (by omega) (by omega) (by intro; omega) w hr hb (by omega)).mono ?_
  rintro e w2 ⟨v2, rfl, hr2, hg2⟩
  go_wp2_with fail
  exact HL _ _ _ ⟨rfl, rfl, rfl, K2.out, K3.out, K7.out, K8.out, K9.out, K10.out, G11.out.symm.trans K11.out, K12.out, K13.out, K14.out, K15.out, K16.out, K17.out⟩ (by rw [HE.out]; exact hr2) hg2

set_option maxRecDepth 100000 in
set_option maxHeartbeats 4000000 in
theorem st_259 (t : Fs.Tm) (ht : TmOk t) (F : Fr) (h12 : F.mo = .int .i64 (t.month : Nat)) {base : Nat} {v : Value} {l : List UInt8} (w : World) (hr : Row w base v l) (hb : base ≤ w.heap.size) (hl : l.length ≤ 70368744170000)
    (a : Act) (hA : AF a v F) (h19 : a.tmps.getD 19 undef = .int .i64 (259)) (Q : Exit → Act → World → Prop) (HL : Left t (259) F base v l w Q) : Code.wp Tryd.prog af22 Q a w := by
  obtain ⟨i0, hi, hz0, hz1, hz2⟩ := info_parts info_u8
  obtain ⟨y1, m1, m2, dd, yd, wd, hh, mm, ss, nn, nl, o1, o2, o3⟩ := ht
  have hm : bits BinOp.and IntKind.i64 259 65535 = 259 := by decide
  have HE : Hid (Fs.elem t 259 = Fs.dg 0 (t.month)) := by show _ = _; unfold Fs.elem; simp
  obtain ⟨k0, k1, h1, k2, k3, k7, k8, k9, k10, k11, k12, k13, k14, k15, k16, k17⟩ := hA
  obtain ⟨u, hu, ha⟩ := lay393 a k0 k1
  rw [hu] at h1 h19 k2 k3 k7 k8 k9 k10 k11 k12 k13 k14 k15 k16 k17
  have g12 := k12.trans h12
  rw [ha, h1, h19, g12]
  have K2 := hide k2
  have K3 := hide k3
  have K7 := hide k7
  have K8 := hide k8
  have K9 := hide k9
  have K10 := hide k10
  have K11 := hide k11
  have K12 := hide k12
  have K13 := hide k13
  have K14 := hide k14
  have K15 := hide k15
  have K16 := hide k16
  have K17 := hide k17
  have G12 := hide g12
  clear ha hu k0 k1 h1 h19 k2 k3 k7 k8 k9 k10 k11 k12 k13 k14 k15 k16 k17 g12 h12
  conv => arg 2; whnf
  go_wp2_with fail
  refine (appendInt_any (t.month) 0 (by omega) (by omega) (by intro; omega) w hr hb (by omega)).mono ?_
  rintro e w2 ⟨v2, rfl, hr2, hg2⟩
  go_wp2_with fail
  exact HL _ _ _ ⟨rfl, rfl, rfl, K2.out, K3.out, K7.out, K8.out, K9.out, K10.out, K11.out, G12.out.symm.trans K12.out, K13.out, K14.out, K15.out, K16.out, K17.out⟩ (by rw [HE.out]; exact hr2) hg2

set_option maxRecDepth 100000 in
set_option maxHeartbeats 4000000 in
theorem st_260 (t : Fs.Tm) (ht : TmOk t) (F : Fr) (h12 : F.mo = .int .i64 (t.month : Nat)) {base : Nat} {v : Value} {l : List UInt8} (w : World) (hr : Row w base v l) (hb : base ≤ w.heap.size) (hl : l.length ≤ 70368744170000)
    (a : Act) (hA : AF a v F) (h19 : a.tmps.getD 19 undef = .int .i64 (260)) (Q : Exit → Act → World → Prop) (HL : Left t (260) F base v l w Q) : Code.wp Tryd.prog af22 Q a w := by
  obtain ⟨i0, hi, hz0, hz1, hz2⟩ := info_parts info_u8
  obtain ⟨y1, m1, m2, dd, yd, wd, hh, mm, ss, nn, nl, o1, o2, o3⟩ := ht
  have hm : bits BinOp.and IntKind.i64 260 65535 = 260 := by decide
  have HE : Hid (Fs.elem t 260 = Fs.dg 2 (t.month)) := by show _ = _; unfold Fs.elem; simp
  obtain ⟨k0, k1, h1, k2, k3, k7, k8, k9, k10, k11, k12, k13, k14, k15, k16, k17⟩ := hA
  obtain ⟨u, hu, ha⟩ := lay393 a k0 k1
  rw [hu] at h1 h19 k2 k3 k7 k8 k9 k10 k11 k12 k13 k14 k15 k16 k17
  have g12 := k12.trans h12
  rw [ha, h1, h19, g12]
  have K2 := hide k2
  have K3 := hide k3
  have K7 := hide k7
  have K8 := hide k8
  have K9 := hide k9
  have K10 := hide k10
  have K11 := hide k11
  have K12 := hide k12
  have K13 := hide k13
  have K14 := hide k14
  have K15 := hide k15
  have K16 := hide k16
  have K17 := hide k17
  have G12 := hide g12
  clear ha hu k0 k1 h1 h19 k2 k3 k7 k8 k9 k10 k11 k12 k13 k14 k15 k16 k17 g12 h12
  conv => arg 2; whnf
  go_wp2_with fail
  refine (appendInt_any (t.month) 2 (by omega) (by omega) (by intro; omega) w hr hb (by omega)).mono ?_
  rintro e w2 ⟨v2, rfl, hr2, hg2⟩
  go_wp2_with fail
  exact HL _ _ _ ⟨rfl, rfl, rfl, K2.out, K3.out, K7.out, K8.out, K9.out, K10.out, K11.out, G12.out.symm.trans K12.out, K13.out, K14.out, K15.out, K16.out, K17.out⟩ (by rw [HE.out]; exact hr2) hg2

set_option maxRecDepth 100000 in
set_option maxHeartbeats 4000000 in
theorem st_263 (t : Fs.Tm) (ht : TmOk t) (F : Fr) (h13 : F.d = .int .i64 (t.day : Nat)) {base : Nat} {v : Value} {l : List UInt8} (w : World) (hr : Row w base v l) (hb : base ≤ w.heap.size) (hl : l.length ≤ 70368744170000)
    (a : Act) (hA : AF a v F) (h19 : a.tmps.getD 19 undef = .int .i64 (263)) (Q : Exit → Act → World → Prop) (HL : Left t (263) F base v l w Q) : Code.wp Tryd.prog af22 Q a w := by
  obtain ⟨i0, hi, hz0, hz1, hz2⟩ := info_parts info_u8
  obtain ⟨y1, m1, m2, dd, yd, wd, hh, mm, ss, nn, nl, o1, o2, o3⟩ := ht
  have hm : bits BinOp.and IntKind.i64 263 65535 = 263 := by decide
  have HE : Hid (Fs.elem t 263 = Fs.dg 0 (t.day)) := by show _ = _; unfold Fs.elem; simp
  obtain ⟨k0, k1, h1, k2, k3, k7, k8, k9, k10, k11, k12, k13, k14, k15, k16, k17⟩ := hA
  obtain ⟨u, hu, ha⟩ := lay393 a k0 k1
  rw [hu] at h1 h19 k2 k3 k7 k8 k9 k10 k11 k12 k13 k14 k15 k16 k17
  have g13 := k13.trans h13
  rw [ha, h1, h19, g13]
  have K2 := hide k2
  have K3 := hide k3
  have K7 := hide k7
  have K8 := hide k8
  have K9 := hide k9
  have K10 := hide k10
  have K11 := hide k11
  have K12 := hide k12
  have K13 := hide k13
  have K14 := hide k14
  have K15 := hide k15
  have K16 := hide k16
  have K17 := hide k17
  have G13 := hide g13
  clear ha hu k0 k1 h1 h19 k2 k3 k7 k8 k9 k10 k11 k12 k13 k14 k15 k16 k17 g13 h13
  conv => arg 2; whnf
  go_wp2_with fail
  refine (appendInt_any (t.day) 0 (by omega) (by omega) (by intro; omega) w hr hb (by omega)).mono ?_
  rintro e w2 ⟨v2, rfl, hr2, hg2⟩
  go_wp2_with fail
  exact HL _ _ _ ⟨rfl, rfl, rfl, K2.out, K3.out, K7.out, K8.out, K9.out, K10.out, K11.out, K12.out, G13.out.symm.trans K13.out, K14.out, K15.out, K16.out, K17.out⟩ (by rw [HE.out]; exact hr2) hg2

set_option maxRecDepth 100000 in
set_option maxHeartbeats 4000000 in
theorem st_265 (t : Fs.Tm) (ht : TmOk t) (F : Fr) (h13 : F.d = .int .i64 (t.day : Nat)) {base : Nat} {v : Value} {l : List UInt8} (w : World) (hr : Row w base v l) (hb : base ≤ w.heap.size) (hl : l.length ≤ 70368744170000)
    (a : Act) (hA : AF a v F) (h19 : a.tmps.getD 19 undef = .int .i64 (265)) (Q : Exit → Act → World → Prop) (HL : Left t (265) F base v l w Q) : Code.wp Tryd.prog af22 Q a w := by
  obtain ⟨i0, hi, hz0, hz1, hz2⟩ := info_parts info_u8
  obtain ⟨y1, m1, m2, dd, yd, wd, hh, mm, ss, nn, nl, o1, o2, o3⟩ := ht
  have hm : bits BinOp.and IntKind.i64 265 65535 = 265 := by decide
  have HE : Hid (Fs.elem t 265 = Fs.dg 2 (t.day)) := by show _ = _; unfold Fs.elem; simp
  obtain ⟨k0, k1, h1, k2, k3, k7, k8, k9, k10, k11, k12, k13, k14, k15, k16, k17⟩ := hA
  obtain ⟨u, hu, ha⟩ := lay393 a k0 k1
  rw [hu] at h1 h19 k2 k3 k7 k8 k9 k10 k11 k12 k13 k14 k15 k16 k17
  have g13 := k13.trans h13
  rw [ha, h1, h19, g13]
  have K2 := hide k2
  have K3 := hide k3
  have K7 := hide k7
  have K8 := hide k8
  have K9 := hide k9
  have K10 := hide k10
  have K11 := hide k11
  have K12 := hide k12
  have K13 := hide k13
  have K14 := hide k14
  have K15 := hide k15
  have K16 := hide k16
  have K17 := hide k17
  have G13 := hide g13
  clear ha hu k0 k1 h1 h19 k2 k3 k7 k8 k9 k10 k11 k12 k13 k14 k15 k16 k17 g13 h13
  conv => arg 2; whnf
  go_wp2_with fail
  refine (appendInt_any (t.day) 2 (by omega) (by omega) (by intro; omega) w hr hb (by omega)).mono ?_
  rintro e w2 ⟨v2, rfl, hr2, hg2⟩
  go_wp2_with fail
  exact HL _ _ _ ⟨rfl, rfl, rfl, K2.out, K3.out, K7.out, K8.out, K9.out, K10.out, K11.out, K12.out, G13.out.symm.trans K13.out, K14.out, K15.out, K16.out, K17.out⟩ (by rw [HE.out]; exact hr2) hg2

set_option maxRecDepth 100000 in
set_option maxHeartbeats 4000000 in
theorem st_523 (t : Fs.Tm) (ht : TmOk t) (F : Fr) (h14 : F.yd = .int .i64 (t.yday : Nat)) {base : Nat} {v : Value} {l : List UInt8} (w : World) (hr : Row w base v l) (hb : base ≤ w.heap.size) (hl : l.length ≤ 70368744170000)
    (a : Act) (hA : AF a v F) (h19 : a.tmps.getD 19 undef = .int .i64 (523)) (Q : Exit → Act → World → Prop) (HL : Left t (523) F base v l w Q) : Code.wp Tryd.prog af22 Q a w := by
  obtain ⟨i0, hi, hz0, hz1, hz2⟩ := info_parts info_u8
  obtain ⟨y1, m1, m2, dd, yd, wd, hh, mm, ss, nn, nl, o1, o2, o3⟩ := ht
  have hm : bits BinOp.and IntKind.i64 523 65535 = 523 := by decide
  have HE : Hid (Fs.elem t 523 = Fs.dg 3 (t.yday)) := by show _ = _; unfold Fs.elem; simp
  obtain ⟨k0, k1, h1, k2, k3, k7, k8, k9, k10, k11, k12, k13, k14, k15, k16, k17⟩ := hA
  obtain ⟨u, hu, ha⟩ := lay393 a k0 k1
  rw [hu] at h1 h19 k2 k3 k7 k8 k9 k10 k11 k12 k13 k14 k15 k16 k17
  have g14 := k14.trans h14
  rw [ha, h1, h19, g14]
  have K2 := hide k2
  have K3 := hide k3
  have K7 := hide k7
  have K8 := hide k8
  have K9 := hide k9
  have K10 := hide k10
  have K11 := hide k11
  have K12 := hide k12
  have K13 := hide k13
  have K14 := hide k14
  have K15 := hide k15
  have K16 := hide k16
  have K17 := hide k17
  have G14 := hide g14
  clear ha hu k0 k1 h1 h19 k2 k3 k7 k8 k9 k10 k11 k12 k13 k14 k15 k16 k17 g14 h14
  conv => arg 2; whnf
  go_wp2_with fail
  refine (appendInt_any (t.yday) 3 (by omega) (by omega) (by intro; omega) w hr hb (by omega)).mono ?_
  rintro e w2 ⟨v2, rfl, hr2, hg2⟩
  go_wp2_with fail
  exact HL _ _ _ ⟨rfl, rfl, rfl, K2.out, K3.out, K7.out, K8.out, K9.out, K10.out, K11.out, K12.out, K13.out, G14.out.symm.trans K14.out, K15.out, K16.out, K17.out⟩ (by rw [HE.out]; exact hr2) hg2

set_option maxRecDepth 100000 in
set_option maxHeartbeats 4000000 in
theorem st_1036 (t : Fs.Tm) (ht : TmOk t) (F : Fr) (h15 : F.h = .int .i64 (t.hour : Nat)) {base : Nat} {v : Value} {l : List UInt8} (w : World) (hr : Row w base v l) (hb : base ≤ w.heap.size) (hl : l.length ≤ 70368744170000)
    (a : Act) (hA : AF a v F) (h19 : a.tmps.getD 19 undef = .int .i64 (1036)) (Q : Exit → Act → World → Prop) (HL : Left t (1036) F base v l w Q) : Code.wp Tryd.prog af22 Q a w := by
  obtain ⟨i0, hi, hz0, hz1, hz2⟩ := info_parts info_u8
  obtain ⟨y1, m1, m2, dd, yd, wd, hh, mm, ss, nn, nl, o1, o2, o3⟩ := ht
  have hm : bits BinOp.and IntKind.i64 1036 65535 = 1036 := by decide
  have HE : Hid (Fs.elem t 1036 = Fs.dg 2 (t.hour)) := by show _ = _; unfold Fs.elem; simp
  obtain ⟨k0, k1, h1, k2, k3, k7, k8, k9, k10, k11, k12, k13, k14, k15, k16, k17⟩ := hA
  obtain ⟨u, hu, ha⟩ := lay393 a k0 k1
  rw [hu] at h1 h19 k2 k3 k7 k8 k9 k10 k11 k12 k13 k14 k15 k16 k17
  have g15 := k15.trans h15
  rw [ha, h1, h19, g15]
  have K2 := hide k2
  have K3 := hide k3
  have K7 := hide k7
  have K8 := hide k8
  have K9 := hide k9
  have K10 := hide k10
  have K11 := hide k11
  have K12 := hide k12
  have K13 := hide k13
  have K14 := hide k14
  have K15 := hide k15
  have K16 := hide k16
  have K17 := hide k17
  have G15 := hide g15
  clear ha hu k0 k1 h1 h19 k2 k3 k7 k8 k9 k10 k11 k12 k13 k14 k15 k16 k17 g15 h15
  conv => arg 2; whnf
  go_wp2_with fail
  refine (appendInt_any (t.hour) 2 (by omega) (by omega) (by intro; omega) w hr hb (by omega)).mono ?_
  rintro e w2 ⟨v2, rfl, hr2, hg2⟩
  go_wp2_with fail
  exact HL _ _ _ ⟨rfl, rfl, rfl, K2.out, K3.out, K7.out, K8.out, K9.out, K10.out, K11.out, K12.out, K13.out, K14.out, G15.out.symm.trans K15.out, K16.out, K17.out⟩ (by rw [HE.out]; exact hr2) hg2

set_option maxRecDepth 100000 in
set_option maxHeartbeats 4000000 in
theorem st_1039 (t : Fs.Tm) (ht : TmOk t) (F : Fr) (h16 : F.mi = .int .i64 (t.min : Nat)) {base : Nat} {v : Value} {l : List UInt8} (w : World) (hr : Row w base v l) (hb : base ≤ w.heap.size) (hl : l.length ≤ 70368744170000)
    (a : Act) (hA : AF a v F) (h19 : a.tmps.getD 19 undef = .int .i64 (1039)) (Q : Exit → Act → World → Prop) (HL : Left t (1039) F base v l w Q) : Code.wp Tryd.prog af22 Q a w := by
  obtain ⟨i0, hi, hz0, hz1, hz2⟩ := info_parts info_u8
  obtain ⟨y1, m1, m2, dd, yd, wd, hh, mm, ss, nn, nl, o1, o2, o3⟩ := ht
  have hm : bits BinOp.and IntKind.i64 1039 65535 = 1039 := by decide
  have HE : Hid (Fs.elem t 1039 = Fs.dg 0 (t.min)) := by show _ = _; unfold Fs.elem; simp
  obtain ⟨k0, k1, h1, k2, k3, k7, k8, k9, k10, k11, k12, k13, k14, k15, k16, k17⟩ := hA
  obtain ⟨u, hu, ha⟩ := lay393 a k0 k1
  rw [hu] at h1 h19 k2 k3 k7 k8 k9 k10 k11 k12 k13 k14 k15 k16 k17
  have g16 := k16.trans h16
  rw [ha, h1, h19, g16]
  have K2 := hide k2
  have K3 := hide k3
  have K7 := hide k7
  have K8 := hide k8
  have K9 := hide k9
  have K10 := hide k10
  have K11 := hide k11
  have K12 := hide k12
  have K13 := hide k13
  have K14 := hide k14
  have K15 := hide k15
  have K16 := hide k16
  have K17 := hide k17
  have G16 := hide g16
  clear ha hu k0 k1 h1 h19 k2 k3 k7 k8 k9 k10 k11 k12 k13 k14 k15 k16 k17 g16 h16
  conv => arg 2; whnf
  go_wp2_with fail
  refine (appendInt_any (t.min) 0 (by omega) (by omega) (by intro; omega) w hr hb (by omega)).mono ?_
  rintro e w2 ⟨v2, rfl, hr2, hg2⟩
  go_wp2_with fail
  exact HL _ _ _ ⟨rfl, rfl, rfl, K2.out, K3.out, K7.out, K8.out, K9.out, K10.out, K11.out, K12.out, K13.out, K14.out, K15.out, G16.out.symm.trans K16.out, K17.out⟩ (by rw [HE.out]; exact hr2) hg2

set_option maxRecDepth 100000 in
set_option maxHeartbeats 4000000 in
theorem st_1040 (t : Fs.Tm) (ht : TmOk t) (F : Fr) (h16 : F.mi = .int .i64 (t.min : Nat)) {base : Nat} {v : Value} {l : List UInt8} (w : World) (hr : Row w base v l) (hb : base ≤ w.heap.size) (hl : l.length ≤ 70368744170000)
    (a : Act) (hA : AF a v F) (h19 : a.tmps.getD 19 undef = .int .i64 (1040)) (Q : Exit → Act → World → Prop) (HL : Left t (1040) F base v l w Q) : Code.wp Tryd.prog af22 Q a w := by
  obtain ⟨i0, hi, hz0, hz1, hz2⟩ := info_parts info_u8
  obtain ⟨y1, m1, m2, dd, yd, wd, hh, mm, ss, nn, nl, o1, o2, o3⟩ := ht
  have hm : bits BinOp.and IntKind.i64 1040 65535 = 1040 := by decide
  have HE : Hid (Fs.elem t 1040 = Fs.dg 2 (t.min)) := by show _ = _; unfold Fs.elem; simp
  obtain ⟨k0, k1, h1, k2, k3, k7, k8, k9, k10, k11, k12, k13, k14, k15, k16, k17⟩ := hA
  obtain ⟨u, hu, ha⟩ := lay393 a k0 k1
  rw [hu] at h1 h19 k2 k3 k7 k8 k9 k10 k11 k12 k13 k14 k15 k16 k17
  have g16 := k16.trans h16
  rw [ha, h1, h19, g16]
  have K2 := hide k2
  have K3 := hide k3
  have K7 := hide k7
  have K8 := hide k8
  have K9 := hide k9
  have K10 := hide k10
  have K11 := hide k11
  have K12 := hide k12
  have K13 := hide k13
  have K14 := hide k14
  have K15 := hide k15
  have K16 := hide k16
  have K17 := hide k17
  have G16 := hide g16
  clear ha hu k0 k1 h1 h19 k2 k3 k7 k8 k9 k10 k11 k12 k13 k14 k15 k16 k17 g16 h16
  conv => arg 2; whnf
  go_wp2_with fail
  refine (appendInt_any (t.min) 2 (by omega) (by omega) (by intro; omega) w hr hb (by omega)).mono ?_
  rintro e w2 ⟨v2, rfl, hr2, hg2⟩
  go_wp2_with fail
  exact HL _ _ _ ⟨rfl, rfl, rfl, K2.out, K3.out, K7.out, K8.out, K9.out, K10.out, K11.out, K12.out, K13.out, K14.out, K15.out, G16.out.symm.trans K16.out, K17.out⟩ (by rw [HE.out]; exact hr2) hg2

set_option maxRecDepth 100000 in
set_option maxHeartbeats 4000000 in
theorem st_1041 (t : Fs.Tm) (ht : TmOk t) (F : Fr) (h17 : F.s = .int .i64 (t.sec : Nat)) {base : Nat} {v : Value} {l : List UInt8} (w : World) (hr : Row w base v l) (hb : base ≤ w.heap.size) (hl : l.length ≤ 70368744170000)
    (a : Act) (hA : AF a v F) (h19 : a.tmps.getD 19 undef = .int .i64 (1041)) (Q : Exit → Act → World → Prop) (HL : Left t (1041) F base v l w Q) : Code.wp Tryd.prog af22 Q a w := by
  obtain ⟨i0, hi, hz0, hz1, hz2⟩ := info_parts info_u8
  obtain ⟨y1, m1, m2, dd, yd, wd, hh, mm, ss, nn, nl, o1, o2, o3⟩ := ht
  have hm : bits BinOp.and IntKind.i64 1041 65535 = 1041 := by decide
  have HE : Hid (Fs.elem t 1041 = Fs.dg 0 (t.sec)) := by show _ = _; unfold Fs.elem; simp
  obtain ⟨k0, k1, h1, k2, k3, k7, k8, k9, k10, k11, k12, k13, k14, k15, k16, k17⟩ := hA
  obtain ⟨u, hu, ha⟩ := lay393 a k0 k1
  rw [hu] at h1 h19 k2 k3 k7 k8 k9 k10 k11 k12 k13 k14 k15 k16 k17
  have g17 := k17.trans h17
  rw [ha, h1, h19, g17]
  have K2 := hide k2
  have K3 := hide k3
  have K7 := hide k7
  have K8 := hide k8
  have K9 := hide k9
  have K10 := hide k10
  have K11 := hide k11
  have K12 := hide k12
  have K13 := hide k13
  have K14 := hide k14
  have K15 := hide k15
  have K16 := hide k16
  have K17 := hide k17
  have G17 := hide g17
  clear ha hu k0 k1 h1 h19 k2 k3 k7 k8 k9 k10 k11 k12 k13 k14 k15 k16 k17 g17 h17
  conv => arg 2; whnf
  go_wp2_with fail
  refine (appendInt_any (t.sec) 0 (by omega) (by omega) (by intro; omega) w hr hb (by omega)).mono ?_
  rintro e w2 ⟨v2, rfl, hr2, hg2⟩
  go_wp2_with fail
  exact HL _ _ _ ⟨rfl, rfl, rfl, K2.out, K3.out, K7.out, K8.out, K9.out, K10.out, K11.out, K12.out, K13.out, K14.out, K15.out, K16.out, G17.out.symm.trans K17.out⟩ (by rw [HE.out]; exact hr2) hg2

set_option maxRecDepth 100000 in
set_option maxHeartbeats 4000000 in
theorem st_1042 (t : Fs.Tm) (ht : TmOk t) (F : Fr) (h17 : F.s = .int .i64 (t.sec : Nat)) {base : Nat} {v : Value} {l : List UInt8} (w : World) (hr : Row w base v l) (hb : base ≤ w.heap.size) (hl : l.length ≤ 70368744170000)
    (a : Act) (hA : AF a v F) (h19 : a.tmps.getD 19 undef = .int .i64 (1042)) (Q : Exit → Act → World → Prop) (HL : Left t (1042) F base v l w Q) : Code.wp Tryd.prog af22 Q a w := by
  obtain ⟨i0, hi, hz0, hz1, hz2⟩ := info_parts info_u8
  obtain ⟨y1, m1, m2, dd, yd, wd, hh, mm, ss, nn, nl, o1, o2, o3⟩ := ht
  have hm : bits BinOp.and IntKind.i64 1042 65535 = 1042 := by decide
  have HE : Hid (Fs.elem t 1042 = Fs.dg 2 (t.sec)) := by show _ = _; unfold Fs.elem; simp
  obtain ⟨k0, k1, h1, k2, k3, k7, k8, k9, k10, k11, k12, k13, k14, k15, k16, k17⟩ := hA
  obtain ⟨u, hu, ha⟩ := lay393 a k0 k1
  rw [hu] at h1 h19 k2 k3 k7 k8 k9 k10 k11 k12 k13 k14 k15 k16 k17
  have g17 := k17.trans h17
  rw [ha, h1, h19, g17]
  have K2 := hide k2
  have K3 := hide k3
  have K7 := hide k7
  have K8 := hide k8
  have K9 := hide k9
  have K10 := hide k10
  have K11 := hide k11
  have K12 := hide k12
  have K13 := hide k13
  have K14 := hide k14
  have K15 := hide k15
  have K16 := hide k16
  have K17 := hide k17
  have G17 := hide g17
  clear ha hu k0 k1 h1 h19 k2 k3 k7 k8 k9 k10 k11 k12 k13 k14 k15 k16 k17 g17 h17
  conv => arg 2; whnf
  go_wp2_with fail
  refine (appendInt_any (t.sec) 2 (by omega) (by omega) (by intro; omega) w hr hb (by omega)).mono ?_
  rintro e w2 ⟨v2, rfl, hr2, hg2⟩
  go_wp2_with fail
  exact HL _ _ _ ⟨rfl, rfl, rfl, K2.out, K3.out, K7.out, K8.out, K9.out, K10.out, K11.out, K12.out, K13.out, K14.out, K15.out, K16.out, G17.out.symm.trans K17.out⟩ (by rw [HE.out]; exact hr2) hg2

end Go.Proofs.YtgcjhakhepgjlaaDoor

/-
  WALKS, times, part u: appendFormat's elements: names, halves of the day (printed by wip/py/gen_fmt.py).
-/
namespace Go.Proofs.YtgcjhakhepgjlaaDoor
open Go.RowKit
set_option linter.unusedVariables false
set_option linter.unusedSimpArgs false
attribute [local go_sem] ByteArray.extract_mk get_mk ByteArray.toList_mk ByteArray.mk_append_mk take_drop_len

theorem monthName_3 {m : Nat} (h1 : 1 ≤ m) (h2 : m ≤ 12) : (3 : Int) ≤ (Fs.monthName m).length := by
  have hm : m = 1 ∨ m = 2 ∨ m = 3 ∨ m = 4 ∨ m = 5 ∨ m = 6 ∨ m = 7 ∨ m = 8 ∨ m = 9 ∨ m = 10 ∨ m = 11 ∨ m = 12 := by omega
  rcases hm with rfl | rfl | rfl | rfl | rfl | rfl | rfl | rfl | rfl | rfl | rfl | rfl <;> decide
theorem dayName_3 {m : Nat} (h2 : m ≤ 6) : (3 : Int) ≤ (Fs.dayName m).length := by
  have hm : m = 0 ∨ m = 1 ∨ m = 2 ∨ m = 3 ∨ m = 4 ∨ m = 5 ∨ m = 6 := by omega
  rcases hm with rfl | rfl | rfl | rfl | rfl | rfl | rfl <;> decide
set_option maxRecDepth 100000 in
set_option maxHeartbeats 4000000 in
theorem st_258 (t : Fs.Tm) (ht : TmOk t) (F : Fr) (h12 : F.mo = .int .i64 (t.month : Nat)) {base : Nat} {v : Value} {l : List UInt8} (w : World) (hr : Row w base v l) (hb : base ≤ w.heap.size) (hl : l.length ≤ 70368744170000)
    (a : Act) (hA : AF a v F) (h19 : a.tmps.getD 19 undef = .int .i64 (258)) (Q : Exit → Act → World → Prop) (HL : Left t (258) F base v l w Q) : Code.wp Tryd.prog af22 Q a w := by
  obtain ⟨i0, hi, hz0, hz1, hz2⟩ := info_parts info_u8
  obtain ⟨y1, m1, m2, dd, yd, wd, hh, mm, ss, nn, nl, o1, o2, o3⟩ := ht
  have hm : bits BinOp.and IntKind.i64 258 65535 = 258 := by decide
  have HE : Hid (Fs.elem t 258 = List.take 3 (Fs.monthName t.month)) := by show _ = _; unfold Fs.elem; simp
  have hn3 := monthName_3 m1 m2
  have hn9 := Fs.monthName_len t.month
  obtain ⟨k0, k1, h1, k2, k3, k7, k8, k9, k10, k11, k12, k13, k14, k15, k16, k17⟩ := hA
  obtain ⟨u, hu, ha⟩ := lay393 a k0 k1
  rw [hu] at h1 h19 k2 k3 k7 k8 k9 k10 k11 k12 k13 k14 k15 k16 k17
  have g12 := k12.trans h12
  rw [ha, h1, h19, g12]
  have K2 := hide k2
  have K3 := hide k3
  have K7 := hide k7
  have K8 := hide k8
  have K9 := hide k9
  have K10 := hide k10
  have K11 := hide k11
  have K12 := hide k12
  have K13 := hide k13
  have K14 := hide k14
  have K15 := hide k15
  have K16 := hide k16
  have K17 := hide k17
  have G12 := hide g12
  clear ha hu k0 k1 h1 h19 k2 k3 k7 k8 k9 k10 k11 k12 k13 k14 k15 k16 k17 g12 h12
  conv => arg 2; whnf
  go_wp2_with fail
  refine (MonthString_any t.month m1 m2 w).mono ?_
  rintro e w2 ⟨rfl, hb2⟩
  have hr2 := hr.below hb2
  have hs2 := Nat.le_trans hb hb2.size
  have g2 := (Gr.refl w v).then_below hb2
  clear hb2
  go_wp2_with (at_builtin; refine wpList_append_gr_str _ rfl (.tmp 111) (.tmp 114) 47 9 rfl 5 i0 (.int .u8 0) Tryd.underlying47 Tryd.underlying9 hi hz0 hz1 hz2 rfl rfl hr2 hs2 (List.take 3 (Fs.monthName t.month)) rfl (by first | (simp; omega) | omega) ?_; intro v3 w3 hr3 hg3)
  go_wp2_with fail
  exact HL _ _ _ ⟨rfl, rfl, rfl, K2.out, K3.out, K7.out, K8.out, K9.out, K10.out, K11.out, G12.out.symm.trans K12.out, K13.out, K14.out, K15.out, K16.out, K17.out⟩ (by rw [HE.out]; exact hr3) (g2.trans hg3)

set_option maxRecDepth 100000 in
set_option maxHeartbeats 4000000 in
theorem st_257 (t : Fs.Tm) (ht : TmOk t) (F : Fr) (h12 : F.mo = .int .i64 (t.month : Nat)) {base : Nat} {v : Value} {l : List UInt8} (w : World) (hr : Row w base v l) (hb : base ≤ w.heap.size) (hl : l.length ≤ 70368744170000)
    (a : Act) (hA : AF a v F) (h19 : a.tmps.getD 19 undef = .int .i64 (257)) (Q : Exit → Act → World → Prop) (HL : Left t (257) F base v l w Q) : Code.wp Tryd.prog af22 Q a w := by
  obtain ⟨i0, hi, hz0, hz1, hz2⟩ := info_parts info_u8
  obtain ⟨y1, m1, m2, dd, yd, wd, hh, mm, ss, nn, nl, o1, o2, o3⟩ := ht
  have hm : bits BinOp.and IntKind.i64 257 65535 = 257 := by decide
  have HE : Hid (Fs.elem t 257 = Fs.monthName t.month) := by show _ = _; unfold Fs.elem; simp
  have hn3 := monthName_3 m1 m2
  have hn9 := Fs.monthName_len t.month
  obtain ⟨k0, k1, h1, k2, k3, k7, k8, k9, k10, k11, k12, k13, k14, k15, k16, k17⟩ := hA
  obtain ⟨u, hu, ha⟩ := lay393 a k0 k1
  rw [hu] at h1 h19 k2 k3 k7 k8 k9 k10 k11 k12 k13 k14 k15 k16 k17
  have g12 := k12.trans h12
  rw [ha, h1, h19, g12]
  have K2 := hide k2
  have K3 := hide k3
  have K7 := hide k7
  have K8 := hide k8
  have K9 := hide k9
  have K10 := hide k10
  have K11 := hide k11
  have K12 := hide k12
  have K13 := hide k13
  have K14 := hide k14
  have K15 := hide k15
  have K16 := hide k16
  have K17 := hide k17
  have G12 := hide g12
  clear ha hu k0 k1 h1 h19 k2 k3 k7 k8 k9 k10 k11 k12 k13 k14 k15 k16 k17 g12 h12
  conv => arg 2; whnf
  go_wp2_with fail
  refine (MonthString_any t.month m1 m2 w).mono ?_
  rintro e w2 ⟨rfl, hb2⟩
  have hr2 := hr.below hb2
  have hs2 := Nat.le_trans hb hb2.size
  have g2 := (Gr.refl w v).then_below hb2
  clear hb2
  go_wp2_with (at_builtin; refine wpList_append_gr_str _ rfl (.tmp 120) (.tmp 121) 47 9 rfl 5 i0 (.int .u8 0) Tryd.underlying47 Tryd.underlying9 hi hz0 hz1 hz2 rfl rfl hr2 hs2 (Fs.monthName t.month) rfl (by first | (simp; omega) | omega) ?_; intro v3 w3 hr3 hg3)
  go_wp2_with fail
  exact HL _ _ _ ⟨rfl, rfl, rfl, K2.out, K3.out, K7.out, K8.out, K9.out, K10.out, K11.out, G12.out.symm.trans K12.out, K13.out, K14.out, K15.out, K16.out, K17.out⟩ (by rw [HE.out]; exact hr3) (g2.trans hg3)

set_option maxRecDepth 100000 in
set_option maxHeartbeats 4000000 in
theorem st_262 (t : Fs.Tm) (ht : TmOk t) (F : Fr) (D : Nat) (hD : D ≤ 200000000000000) (hDw : (D + 3) % 7 = t.wday) (h10 : F.days = .int .u64 (D : Nat)) {base : Nat} {v : Value} {l : List UInt8} (w : World) (hr : Row w base v l) (hb : base ≤ w.heap.size) (hl : l.length ≤ 70368744170000)
    (a : Act) (hA : AF a v F) (h19 : a.tmps.getD 19 undef = .int .i64 (262)) (Q : Exit → Act → World → Prop) (HL : Left t (262) F base v l w Q) : Code.wp Tryd.prog af22 Q a w := by
  obtain ⟨i0, hi, hz0, hz1, hz2⟩ := info_parts info_u8
  obtain ⟨y1, m1, m2, dd, yd, wd, hh, mm, ss, nn, nl, o1, o2, o3⟩ := ht
  have hm : bits BinOp.and IntKind.i64 262 65535 = 262 := by decide
  have HE : Hid (Fs.elem t 262 = List.take 3 (Fs.dayName t.wday)) := by show _ = _; unfold Fs.elem; simp
  have hn3 := dayName_3 wd
  have hn9 := Fs.dayName_len t.wday
  have HDw := hide hDw
  clear hDw
  obtain ⟨k0, k1, h1, k2, k3, k7, k8, k9, k10, k11, k12, k13, k14, k15, k16, k17⟩ := hA
  obtain ⟨u, hu, ha⟩ := lay393 a k0 k1
  rw [hu] at h1 h19 k2 k3 k7 k8 k9 k10 k11 k12 k13 k14 k15 k16 k17
  have g10 := k10.trans h10
  rw [ha, h1, h19, g10]
  have K2 := hide k2
  have K3 := hide k3
  have K7 := hide k7
  have K8 := hide k8
  have K9 := hide k9
  have K10 := hide k10
  have K11 := hide k11
  have K12 := hide k12
  have K13 := hide k13
  have K14 := hide k14
  have K15 := hide k15
  have K16 := hide k16
  have K17 := hide k17
  have G10 := hide g10
  clear ha hu k0 k1 h1 h19 k2 k3 k7 k8 k9 k10 k11 k12 k13 k14 k15 k16 k17  g10 h10
  conv => arg 2; whnf
  go_wp2_with fail
  refine (weekday_any D hD w).mono ?_
  rintro e w1 ⟨rfl, hq1⟩
  rw [HDw.out]
  go_wp2_with fail
  refine (WeekdayString_any t.wday wd w1).mono ?_
  rintro e w2 ⟨rfl, hb1⟩
  have hb2 := (hq1.below w.heap.size).trans (hb1.mono (Nat.le_of_eq hq1.size.symm))
  have hr2 := hr.below hb2
  have hs2 := Nat.le_trans hb hb2.size
  have g2 := (Gr.refl w v).then_below hb2
  clear hb2 hb1 hq1
  go_wp2_with (at_builtin; refine wpList_append_gr_str _ rfl (.tmp 135) (.tmp 139) 47 9 rfl 5 i0 (.int .u8 0) Tryd.underlying47 Tryd.underlying9 hi hz0 hz1 hz2 rfl rfl hr2 hs2 (List.take 3 (Fs.dayName t.wday)) rfl (by first | (simp; omega) | omega) ?_; intro v3 w3 hr3 hg3)
  go_wp2_with fail
  exact HL _ _ _ ⟨rfl, rfl, rfl, K2.out, K3.out, K7.out, K8.out, K9.out, G10.out.symm.trans K10.out, K11.out, K12.out, K13.out, K14.out, K15.out, K16.out, K17.out⟩ (by rw [HE.out]; exact hr3) (g2.trans hg3)

set_option maxRecDepth 100000 in
set_option maxHeartbeats 4000000 in
theorem st_261 (t : Fs.Tm) (ht : TmOk t) (F : Fr) (D : Nat) (hD : D ≤ 200000000000000) (hDw : (D + 3) % 7 = t.wday) (h10 : F.days = .int .u64 (D : Nat)) {base : Nat} {v : Value} {l : List UInt8} (w : World) (hr : Row w base v l) (hb : base ≤ w.heap.size) (hl : l.length ≤ 70368744170000)
    (a : Act) (hA : AF a v F) (h19 : a.tmps.getD 19 undef = .int .i64 (261)) (Q : Exit → Act → World → Prop) (HL : Left t (261) F base v l w Q) : Code.wp Tryd.prog af22 Q a w := by
  obtain ⟨i0, hi, hz0, hz1, hz2⟩ := info_parts info_u8
  obtain ⟨y1, m1, m2, dd, yd, wd, hh, mm, ss, nn, nl, o1, o2, o3⟩ := ht
  have hm : bits BinOp.and IntKind.i64 261 65535 = 261 := by decide
  have HE : Hid (Fs.elem t 261 = Fs.dayName t.wday) := by show _ = _; unfold Fs.elem; simp
  have hn3 := dayName_3 wd
  have hn9 := Fs.dayName_len t.wday
  have HDw := hide hDw
  clear hDw
  obtain ⟨k0, k1, h1, k2, k3, k7, k8, k9, k10, k11, k12, k13, k14, k15, k16, k17⟩ := hA
  obtain ⟨u, hu, ha⟩ := lay393 a k0 k1
  rw [hu] at h1 h19 k2 k3 k7 k8 k9 k10 k11 k12 k13 k14 k15 k16 k17
  have g10 := k10.trans h10
  rw [ha, h1, h19, g10]
  have K2 := hide k2
  have K3 := hide k3
  have K7 := hide k7
  have K8 := hide k8
  have K9 := hide k9
  have K10 := hide k10
  have K11 := hide k11
  have K12 := hide k12
  have K13 := hide k13
  have K14 := hide k14
  have K15 := hide k15
  have K16 := hide k16
  have K17 := hide k17
  have G10 := hide g10
  clear ha hu k0 k1 h1 h19 k2 k3 k7 k8 k9 k10 k11 k12 k13 k14 k15 k16 k17  g10 h10
  conv => arg 2; whnf
  go_wp2_with fail
  refine (weekday_any D hD w).mono ?_
  rintro e w1 ⟨rfl, hq1⟩
  rw [HDw.out]
  go_wp2_with fail
  refine (WeekdayString_any t.wday wd w1).mono ?_
  rintro e w2 ⟨rfl, hb1⟩
  have hb2 := (hq1.below w.heap.size).trans (hb1.mono (Nat.le_of_eq hq1.size.symm))
  have hr2 := hr.below hb2
  have hs2 := Nat.le_trans hb hb2.size
  have g2 := (Gr.refl w v).then_below hb2
  clear hb2 hb1 hq1
  go_wp2_with (at_builtin; refine wpList_append_gr_str _ rfl (.tmp 146) (.tmp 147) 47 9 rfl 5 i0 (.int .u8 0) Tryd.underlying47 Tryd.underlying9 hi hz0 hz1 hz2 rfl rfl hr2 hs2 (Fs.dayName t.wday) rfl (by first | (simp; omega) | omega) ?_; intro v3 w3 hr3 hg3)
  go_wp2_with fail
  exact HL _ _ _ ⟨rfl, rfl, rfl, K2.out, K3.out, K7.out, K8.out, K9.out, G10.out.symm.trans K10.out, K11.out, K12.out, K13.out, K14.out, K15.out, K16.out, K17.out⟩ (by rw [HE.out]; exact hr3) (g2.trans hg3)

set_option maxRecDepth 100000 in
set_option maxHeartbeats 4000000 in
theorem st_1045 (t : Fs.Tm) (ht : TmOk t) (F : Fr) (h15 : F.h = .int .i64 (t.hour : Nat)) {base : Nat} {v : Value} {l : List UInt8} (w : World) (hr : Row w base v l) (hb : base ≤ w.heap.size) (hl : l.length ≤ 70368744170000)
    (a : Act) (hA : AF a v F) (h19 : a.tmps.getD 19 undef = .int .i64 (1045)) (Q : Exit → Act → World → Prop) (HL : Left t (1045) F base v l w Q) : Code.wp Tryd.prog af22 Q a w := by
  obtain ⟨i0, hi, hz0, hz1, hz2⟩ := info_parts info_u8
  obtain ⟨y1, m1, m2, dd, yd, wd, hh, mm, ss, nn, nl, o1, o2, o3⟩ := ht
  have hm : bits BinOp.and IntKind.i64 1045 65535 = 1045 := by decide
  have HE : Hid (Fs.elem t 1045 = if 12 ≤ t.hour then [80, 77] else [65, 77]) := by show _ = _; unfold Fs.elem; simp
  obtain ⟨k0, k1, h1, k2, k3, k7, k8, k9, k10, k11, k12, k13, k14, k15, k16, k17⟩ := hA
  obtain ⟨u, hu, ha⟩ := lay393 a k0 k1
  rw [hu] at h1 h19 k2 k3 k7 k8 k9 k10 k11 k12 k13 k14 k15 k16 k17
  have g15 := k15.trans h15
  rw [ha, h1, h19, g15]
  have K2 := hide k2
  have K3 := hide k3
  have K7 := hide k7
  have K8 := hide k8
  have K9 := hide k9
  have K10 := hide k10
  have K11 := hide k11
  have K12 := hide k12
  have K13 := hide k13
  have K14 := hide k14
  have K15 := hide k15
  have K16 := hide k16
  have K17 := hide k17
  have G15 := hide g15
  clear ha hu k0 k1 h1 h19 k2 k3 k7 k8 k9 k10 k11 k12 k13 k14 k15 k16 k17 g15 h15
  conv => arg 2; whnf
  by_cases h12 : 12 ≤ (t.hour : Int)
  · have HE2 : Hid (Fs.elem t 1045 = [80, 77]) := HE.out.trans (if_pos (by omega))
    go_wp2_with (at_builtin; refine wpList_append_gr_str _ rfl (.tmp 236) (.const (.string ⟨#[80, 77]⟩)) 47 9 rfl 5 i0 (.int .u8 0) Tryd.underlying47 Tryd.underlying9 hi hz0 hz1 hz2 rfl rfl hr hb ([80, 77]) rfl (by first | (simp; omega) | omega) ?_; intro v3 w3 hr3 hg3)
    go_wp2_with fail
    exact HL _ _ _ ⟨rfl, rfl, rfl, K2.out, K3.out, K7.out, K8.out, K9.out, K10.out, K11.out, K12.out, K13.out, K14.out, G15.out.symm.trans K15.out, K16.out, K17.out⟩ (by rw [HE2.out]; exact hr3) hg3
  · have HE2 : Hid (Fs.elem t 1045 = [65, 77]) := HE.out.trans (if_neg (by omega))
    go_wp2_with (at_builtin; refine wpList_append_gr_str _ rfl (.tmp 238) (.const (.string ⟨#[65, 77]⟩)) 47 9 rfl 5 i0 (.int .u8 0) Tryd.underlying47 Tryd.underlying9 hi hz0 hz1 hz2 rfl rfl hr hb ([65, 77]) rfl (by first | (simp; omega) | omega) ?_; intro v3 w3 hr3 hg3)
    go_wp2_with fail
    exact HL _ _ _ ⟨rfl, rfl, rfl, K2.out, K3.out, K7.out, K8.out, K9.out, K10.out, K11.out, K12.out, K13.out, K14.out, G15.out.symm.trans K15.out, K16.out, K17.out⟩ (by rw [HE2.out]; exact hr3) hg3

set_option maxRecDepth 100000 in
set_option maxHeartbeats 4000000 in
theorem st_1046 (t : Fs.Tm) (ht : TmOk t) (F : Fr) (h15 : F.h = .int .i64 (t.hour : Nat)) {base : Nat} {v : Value} {l : List UInt8} (w : World) (hr : Row w base v l) (hb : base ≤ w.heap.size) (hl : l.length ≤ 70368744170000)
    (a : Act) (hA : AF a v F) (h19 : a.tmps.getD 19 undef = .int .i64 (1046)) (Q : Exit → Act → World → Prop) (HL : Left t (1046) F base v l w Q) : Code.wp Tryd.prog af22 Q a w := by
  obtain ⟨i0, hi, hz0, hz1, hz2⟩ := info_parts info_u8
  obtain ⟨y1, m1, m2, dd, yd, wd, hh, mm, ss, nn, nl, o1, o2, o3⟩ := ht
  have hm : bits BinOp.and IntKind.i64 1046 65535 = 1046 := by decide
  have HE : Hid (Fs.elem t 1046 = if 12 ≤ t.hour then [112, 109] else [97, 109]) := by show _ = _; unfold Fs.elem; simp
  obtain ⟨k0, k1, h1, k2, k3, k7, k8, k9, k10, k11, k12, k13, k14, k15, k16, k17⟩ := hA
  obtain ⟨u, hu, ha⟩ := lay393 a k0 k1
  rw [hu] at h1 h19 k2 k3 k7 k8 k9 k10 k11 k12 k13 k14 k15 k16 k17
  have g15 := k15.trans h15
  rw [ha, h1, h19, g15]
  have K2 := hide k2
  have K3 := hide k3
  have K7 := hide k7
  have K8 := hide k8
  have K9 := hide k9
  have K10 := hide k10
  have K11 := hide k11
  have K12 := hide k12
  have K13 := hide k13
  have K14 := hide k14
  have K15 := hide k15
  have K16 := hide k16
  have K17 := hide k17
  have G15 := hide g15
  clear ha hu k0 k1 h1 h19 k2 k3 k7 k8 k9 k10 k11 k12 k13 k14 k15 k16 k17 g15 h15
  conv => arg 2; whnf
  by_cases h12 : 12 ≤ (t.hour : Int)
  · have HE2 : Hid (Fs.elem t 1046 = [112, 109]) := HE.out.trans (if_pos (by omega))
    go_wp2_with (at_builtin; refine wpList_append_gr_str _ rfl (.tmp 244) (.const (.string ⟨#[112, 109]⟩)) 47 9 rfl 5 i0 (.int .u8 0) Tryd.underlying47 Tryd.underlying9 hi hz0 hz1 hz2 rfl rfl hr hb ([112, 109]) rfl (by first | (simp; omega) | omega) ?_; intro v3 w3 hr3 hg3)
    go_wp2_with fail
    exact HL _ _ _ ⟨rfl, rfl, rfl, K2.out, K3.out, K7.out, K8.out, K9.out, K10.out, K11.out, K12.out, K13.out, K14.out, G15.out.symm.trans K15.out, K16.out, K17.out⟩ (by rw [HE2.out]; exact hr3) hg3
  · have HE2 : Hid (Fs.elem t 1046 = [97, 109]) := HE.out.trans (if_neg (by omega))
    go_wp2_with (at_builtin; refine wpList_append_gr_str _ rfl (.tmp 246) (.const (.string ⟨#[97, 109]⟩)) 47 9 rfl 5 i0 (.int .u8 0) Tryd.underlying47 Tryd.underlying9 hi hz0 hz1 hz2 rfl rfl hr hb ([97, 109]) rfl (by first | (simp; omega) | omega) ?_; intro v3 w3 hr3 hg3)
    go_wp2_with fail
    exact HL _ _ _ ⟨rfl, rfl, rfl, K2.out, K3.out, K7.out, K8.out, K9.out, K10.out, K11.out, K12.out, K13.out, K14.out, G15.out.symm.trans K15.out, K16.out, K17.out⟩ (by rw [HE2.out]; exact hr3) hg3

set_option maxRecDepth 100000 in
set_option maxHeartbeats 4000000 in
theorem st_23 (t : Fs.Tm) (ht : TmOk t) (F : Fr) (hn0 : t.name ≠ []) (h7 : F.nm = .string ⟨t.name.toArray⟩) {base : Nat} {v : Value} {l : List UInt8} (w : World) (hr : Row w base v l) (hb : base ≤ w.heap.size) (hl : l.length ≤ 70368744170000)
    (a : Act) (hA : AF a v F) (h19 : a.tmps.getD 19 undef = .int .i64 (23)) (Q : Exit → Act → World → Prop) (HL : Left t (23) F base v l w Q) : Code.wp Tryd.prog af22 Q a w := by
  obtain ⟨i0, hi, hz0, hz1, hz2⟩ := info_parts info_u8
  obtain ⟨y1, m1, m2, dd, yd, wd, hh, mm, ss, nn, nl, o1, o2, o3⟩ := ht
  have hm : bits BinOp.and IntKind.i64 23 65535 = 23 := by decide
  have HE : Hid (Fs.elem t 23 = t.name) := by show _ = _; unfold Fs.elem; simp [hn0]
  have e1 : (t.name == []) = false := by rw [beq_eq_false_iff_ne]; exact hn0
  have e2 : (t.name != []) = true := by simpa using hn0
  have e3 : t.name.isEmpty = false := by simpa using hn0
  have HN0 := hide hn0
  clear hn0
  obtain ⟨k0, k1, h1, k2, k3, k7, k8, k9, k10, k11, k12, k13, k14, k15, k16, k17⟩ := hA
  obtain ⟨u, hu, ha⟩ := lay393 a k0 k1
  rw [hu] at h1 h19 k2 k3 k7 k8 k9 k10 k11 k12 k13 k14 k15 k16 k17
  have g7 := k7.trans h7
  rw [ha, h1, h19, g7]
  have K2 := hide k2
  have K3 := hide k3
  have K7 := hide k7
  have K8 := hide k8
  have K9 := hide k9
  have K10 := hide k10
  have K11 := hide k11
  have K12 := hide k12
  have K13 := hide k13
  have K14 := hide k14
  have K15 := hide k15
  have K16 := hide k16
  have K17 := hide k17
  have G7 := hide g7
  clear ha hu k0 k1 h1 h19 k2 k3 k7 k8 k9 k10 k11 k12 k13 k14 k15 k16 k17  g7 h7
  conv => arg 2; whnf
  go_wp2_with (at_builtin; refine wpList_append_gr_str _ rfl (.tmp 361) (.tmp 362) 47 9 rfl 5 i0 (.int .u8 0) Tryd.underlying47 Tryd.underlying9 hi hz0 hz1 hz2 rfl rfl hr hb (t.name) rfl (by first | (simp; omega) | omega) ?_; intro v3 w3 hr3 hg3)
  go_wp2_with fail
  exact HL _ _ _ ⟨rfl, rfl, rfl, K2.out, K3.out, G7.out.symm.trans K7.out, K8.out, K9.out, K10.out, K11.out, K12.out, K13.out, K14.out, K15.out, K16.out, K17.out⟩ (by rw [HE.out]; exact hr3) hg3

end Go.Proofs.YtgcjhakhepgjlaaDoor

/-
  WALKS, times, part u: appendFormat's elements: blanks, the twelve-hour clock (printed by wip/py/gen_fmt.py).
-/
namespace Go.Proofs.YtgcjhakhepgjlaaDoor
open Go.RowKit
set_option linter.unusedVariables false
set_option linter.unusedSimpArgs false
attribute [local go_sem] ByteArray.extract_mk get_mk ByteArray.toList_mk ByteArray.mk_append_mk take_drop_len

set_option maxRecDepth 100000 in
set_option maxHeartbeats 4000000 in
theorem st_264 (t : Fs.Tm) (ht : TmOk t) (F : Fr) (h13 : F.d = .int .i64 (t.day : Nat)) {base : Nat} {v : Value} {l : List UInt8} (w : World) (hr : Row w base v l) (hb : base ≤ w.heap.size) (hl : l.length ≤ 70368744170000)
    (a : Act) (hA : AF a v F) (h19 : a.tmps.getD 19 undef = .int .i64 (264)) (Q : Exit → Act → World → Prop) (HL : Left t (264) F base v l w Q) : Code.wp Tryd.prog af22 Q a w := by
  obtain ⟨i0, hi, hz0, hz1, hz2⟩ := info_parts info_u8
  obtain ⟨y1, m1, m2, dd, yd, wd, hh, mm, ss, nn, nl, o1, o2, o3⟩ := ht
  have hm : bits BinOp.and IntKind.i64 264 65535 = 264 := by decide
  have HE : Hid (Fs.elem t 264 = (if t.day < 10 then [32] else []) ++ Fs.dg 0 t.day) := by show _ = _; unfold Fs.elem; simp
  obtain ⟨k0, k1, h1, k2, k3, k7, k8, k9, k10, k11, k12, k13, k14, k15, k16, k17⟩ := hA
  obtain ⟨u, hu, ha⟩ := lay393 a k0 k1
  rw [hu] at h1 h19 k2 k3 k7 k8 k9 k10 k11 k12 k13 k14 k15 k16 k17
  have g13 := k13.trans h13
  rw [ha, h1, h19, g13]
  have K2 := hide k2
  have K3 := hide k3
  have K7 := hide k7
  have K8 := hide k8
  have K9 := hide k9
  have K10 := hide k10
  have K11 := hide k11
  have K12 := hide k12
  have K13 := hide k13
  have K14 := hide k14
  have K15 := hide k15
  have K16 := hide k16
  have K17 := hide k17
  have G13 := hide g13
  clear ha hu k0 k1 h1 h19 k2 k3 k7 k8 k9 k10 k11 k12 k13 k14 k15 k16 k17 g13 h13
  conv => arg 2; whnf
  by_cases h10 : (t.day : Int) < 10
  · have HE2 : Hid (Fs.elem t 264 = [32] ++ Fs.dg 0 t.day) := by have := HE.out; rw [if_pos (by omega)] at this; exact this
    go_wp2_with (at_builtin; refine wpList_append_gr _ rfl (.tmp 158) (.tmp 159) 47 rfl 5 i0 (.int .u8 0) Tryd.underlying47 hi hz0 hz1 hz2 rfl rfl (hr.alloc _) (by simp; omega) ⟨w.heap.size, 0, none⟩ 1 1 [32] rfl rfl (news_new w _ _ _ _ (row1 rfl)) (by simp; omega) ?_; intro v3 w3 hr3 hg3)
    have g3 := ((Gr.refl w v).alloc (Obj.cells #[.int .u8 32] 5)).trans hg3
    go_wp2_with fail
    refine (appendInt_any t.day 0 (by omega) (by omega) (by intro; omega) w3 hr3 (Nat.le_trans (by simp; omega) hg3.grown.size) (by simp; omega)).mono ?_
    rintro e w4 ⟨v4, rfl, hr4, hg4⟩
    go_wp2_with fail
    exact HL _ _ _ ⟨rfl, rfl, rfl, K2.out, K3.out, K7.out, K8.out, K9.out, K10.out, K11.out, K12.out, G13.out.symm.trans K13.out, K14.out, K15.out, K16.out, K17.out⟩ (by rw [HE2.out]; rw [← List.append_assoc]; exact hr4) (g3.trans hg4)
  · have HE2 : Hid (Fs.elem t 264 = Fs.dg 0 t.day) := by have := HE.out; rw [if_neg (by omega)] at this; exact this
    go_wp2_with fail
    refine (appendInt_any t.day 0 (by omega) (by omega) (by intro; omega) w hr hb (by omega)).mono ?_
    rintro e w4 ⟨v4, rfl, hr4, hg4⟩
    go_wp2_with fail
    exact HL _ _ _ ⟨rfl, rfl, rfl, K2.out, K3.out, K7.out, K8.out, K9.out, K10.out, K11.out, K12.out, G13.out.symm.trans K13.out, K14.out, K15.out, K16.out, K17.out⟩ (by rw [HE2.out]; exact hr4) hg4

set_option maxRecDepth 100000 in
set_option maxHeartbeats 4000000 in
theorem st_522 (t : Fs.Tm) (ht : TmOk t) (F : Fr) (h14 : F.yd = .int .i64 (t.yday : Nat)) {base : Nat} {v : Value} {l : List UInt8} (w : World) (hr : Row w base v l) (hb : base ≤ w.heap.size) (hl : l.length ≤ 70368744170000)
    (a : Act) (hA : AF a v F) (h19 : a.tmps.getD 19 undef = .int .i64 (522)) (Q : Exit → Act → World → Prop) (HL : Left t (522) F base v l w Q) : Code.wp Tryd.prog af22 Q a w := by
  obtain ⟨i0, hi, hz0, hz1, hz2⟩ := info_parts info_u8
  obtain ⟨y1, m1, m2, dd, yd, wd, hh, mm, ss, nn, nl, o1, o2, o3⟩ := ht
  have hm : bits BinOp.and IntKind.i64 522 65535 = 522 := by decide
  have HE : Hid (Fs.elem t 522 = (if t.yday < 100 then (if t.yday < 10 then [32, 32] else [32]) else []) ++ Fs.dg 0 t.yday) := by show _ = _; unfold Fs.elem; simp
  obtain ⟨k0, k1, h1, k2, k3, k7, k8, k9, k10, k11, k12, k13, k14, k15, k16, k17⟩ := hA
  obtain ⟨u, hu, ha⟩ := lay393 a k0 k1
  rw [hu] at h1 h19 k2 k3 k7 k8 k9 k10 k11 k12 k13 k14 k15 k16 k17
  have g14 := k14.trans h14
  rw [ha, h1, h19, g14]
  have K2 := hide k2
  have K3 := hide k3
  have K7 := hide k7
  have K8 := hide k8
  have K9 := hide k9
  have K10 := hide k10
  have K11 := hide k11
  have K12 := hide k12
  have K13 := hide k13
  have K14 := hide k14
  have K15 := hide k15
  have K16 := hide k16
  have K17 := hide k17
  have G14 := hide g14
  clear ha hu k0 k1 h1 h19 k2 k3 k7 k8 k9 k10 k11 k12 k13 k14 k15 k16 k17 g14 h14
  conv => arg 2; whnf
  by_cases h100 : (t.yday : Int) < 100
  · by_cases h10 : (t.yday : Int) < 10
    · have HE2 : Hid (Fs.elem t 522 = [32] ++ ([32] ++ Fs.dg 0 t.yday)) := by have := HE.out; rw [if_pos (by omega), if_pos (by omega)] at this; exact this
      go_wp2_with (first | (at_builtin; refine wpList_append_gr _ rfl (.tmp 173) (.tmp 174) 47 rfl 5 i0 (.int .u8 0) Tryd.underlying47 hi hz0 hz1 hz2 rfl rfl (hr.alloc _) (by simp; omega) ⟨w.heap.size, 0, none⟩ 1 1 [32] rfl rfl (news_new w _ _ _ _ (row1 rfl)) (by simp; omega) ?_; intro v3 w3 hr3 hg3; have g3 := ((Gr.refl w v).alloc (Obj.cells #[.int .u8 32] 5)).trans hg3; have hb3 : base ≤ w3.heap.size := Nat.le_trans hb g3.grown.size) | (at_builtin; refine wpList_append_gr _ rfl (.tmp 178) (.tmp 179) 47 rfl 5 i0 (.int .u8 0) Tryd.underlying47 hi hz0 hz1 hz2 rfl rfl (hr3.alloc _) (by simp; omega) ⟨w3.heap.size, 0, none⟩ 1 1 [32] rfl rfl (news_new w3 _ _ _ _ (row1 rfl)) (by simp; omega) ?_; intro v5 w5 hr5 hg5))
      have g5 := (g3.alloc (Obj.cells #[.int .u8 32] 5)).trans hg5
      go_wp2_with fail
      refine (appendInt_any t.yday 0 (by omega) (by omega) (by intro; omega) w5 hr5 (Nat.le_trans hb g5.grown.size) (by simp; omega)).mono ?_
      rintro e w4 ⟨v4, rfl, hr4, hg4⟩
      go_wp2_with fail
      exact HL _ _ _ ⟨rfl, rfl, rfl, K2.out, K3.out, K7.out, K8.out, K9.out, K10.out, K11.out, K12.out, K13.out, G14.out.symm.trans K14.out, K15.out, K16.out, K17.out⟩ (by rw [HE2.out]; rw [← List.append_assoc, ← List.append_assoc]; exact hr4) (g5.trans hg4)
    · have HE2 : Hid (Fs.elem t 522 = [32] ++ Fs.dg 0 t.yday) := by have := HE.out; rw [if_pos (by omega), if_neg (by omega)] at this; exact this
      go_wp2_with (at_builtin; refine wpList_append_gr _ rfl (.tmp 173) (.tmp 174) 47 rfl 5 i0 (.int .u8 0) Tryd.underlying47 hi hz0 hz1 hz2 rfl rfl (hr.alloc _) (by simp; omega) ⟨w.heap.size, 0, none⟩ 1 1 [32] rfl rfl (news_new w _ _ _ _ (row1 rfl)) (by simp; omega) ?_; intro v3 w3 hr3 hg3)
      have g3 := ((Gr.refl w v).alloc (Obj.cells #[.int .u8 32] 5)).trans hg3
      go_wp2_with fail
      refine (appendInt_any t.yday 0 (by omega) (by omega) (by intro; omega) w3 hr3 (Nat.le_trans hb g3.grown.size) (by simp; omega)).mono ?_
      rintro e w4 ⟨v4, rfl, hr4, hg4⟩
      go_wp2_with fail
      exact HL _ _ _ ⟨rfl, rfl, rfl, K2.out, K3.out, K7.out, K8.out, K9.out, K10.out, K11.out, K12.out, K13.out, G14.out.symm.trans K14.out, K15.out, K16.out, K17.out⟩ (by rw [HE2.out]; rw [← List.append_assoc]; exact hr4) (g3.trans hg4)
  · have HE2 : Hid (Fs.elem t 522 = Fs.dg 0 t.yday) := by have := HE.out; rw [if_neg (by omega)] at this; exact this
    go_wp2_with fail
    refine (appendInt_any t.yday 0 (by omega) (by omega) (by intro; omega) w hr hb (by omega)).mono ?_
    rintro e w4 ⟨v4, rfl, hr4, hg4⟩
    go_wp2_with fail
    exact HL _ _ _ ⟨rfl, rfl, rfl, K2.out, K3.out, K7.out, K8.out, K9.out, K10.out, K11.out, K12.out, K13.out, G14.out.symm.trans K14.out, K15.out, K16.out, K17.out⟩ (by rw [HE2.out]; exact hr4) hg4

set_option maxRecDepth 100000 in
set_option maxHeartbeats 4000000 in
theorem st_1037 (t : Fs.Tm) (ht : TmOk t) (F : Fr) (h15 : F.h = .int .i64 (t.hour : Nat)) {base : Nat} {v : Value} {l : List UInt8} (w : World) (hr : Row w base v l) (hb : base ≤ w.heap.size) (hl : l.length ≤ 70368744170000)
    (a : Act) (hA : AF a v F) (h19 : a.tmps.getD 19 undef = .int .i64 (1037)) (Q : Exit → Act → World → Prop) (HL : Left t (1037) F base v l w Q) : Code.wp Tryd.prog af22 Q a w := by
  obtain ⟨i0, hi, hz0, hz1, hz2⟩ := info_parts info_u8
  obtain ⟨y1, m1, m2, dd, yd, wd, hh, mm, ss, nn, nl, o1, o2, o3⟩ := ht
  have hm : bits BinOp.and IntKind.i64 1037 65535 = 1037 := by decide
  have HE : Hid (Fs.elem t 1037 = Fs.dg 0 (Fs.hr12 t.hour)) := by show _ = _; unfold Fs.elem; simp
  obtain ⟨k0, k1, h1, k2, k3, k7, k8, k9, k10, k11, k12, k13, k14, k15, k16, k17⟩ := hA
  obtain ⟨u, hu, ha⟩ := lay393 a k0 k1
  rw [hu] at h1 h19 k2 k3 k7 k8 k9 k10 k11 k12 k13 k14 k15 k16 k17
  have g15 := k15.trans h15
  rw [ha, h1, h19, g15]
  have K2 := hide k2
  have K3 := hide k3
  have K7 := hide k7
  have K8 := hide k8
  have K9 := hide k9
  have K10 := hide k10
  have K11 := hide k11
  have K12 := hide k12
  have K13 := hide k13
  have K14 := hide k14
  have K15 := hide k15
  have K16 := hide k16
  have K17 := hide k17
  have G15 := hide g15
  clear ha hu k0 k1 h1 h19 k2 k3 k7 k8 k9 k10 k11 k12 k13 k14 k15 k16 k17 g15 h15
  conv => arg 2; whnf
  by_cases h12 : t.hour % 12 = 0
  · have e1 : (((t.hour : Int) % 12) == 0) = true := by rw [beq_iff_eq]; omega
    have HE2 : Hid (Fs.elem t 1037 = Fs.dg 0 12) := by have := HE.out; unfold Fs.hr12 at this; rw [if_pos h12] at this; exact this
    clear h12
    go_wp2_with fail
    refine (appendInt_any 12 0 (by omega) (by omega) (by intro; omega) w hr hb (by omega)).mono ?_
    rintro e w4 ⟨v4, rfl, hr4, hg4⟩
    go_wp2_with fail
    exact HL _ _ _ ⟨rfl, rfl, rfl, K2.out, K3.out, K7.out, K8.out, K9.out, K10.out, K11.out, K12.out, K13.out, K14.out, G15.out.symm.trans K15.out, K16.out, K17.out⟩ (by rw [HE2.out]; exact hr4) hg4
  · have e1 : (((t.hour : Int) % 12) == 0) = false := by rw [beq_eq_false_iff_ne]; omega
    have HE2 : Hid (Fs.elem t 1037 = Fs.dg 0 (t.hour % 12)) := by have := HE.out; unfold Fs.hr12 at this; rw [if_neg h12] at this; exact this
    clear h12
    go_wp2_with fail
    refine (appendInt_any (t.hour % 12) 0 (by omega) (by omega) (by intro; omega) w hr hb (by omega)).mono ?_
    rintro e w4 ⟨v4, rfl, hr4, hg4⟩
    go_wp2_with fail
    exact HL _ _ _ ⟨rfl, rfl, rfl, K2.out, K3.out, K7.out, K8.out, K9.out, K10.out, K11.out, K12.out, K13.out, K14.out, G15.out.symm.trans K15.out, K16.out, K17.out⟩ (by rw [HE2.out]; exact hr4) hg4

set_option maxRecDepth 100000 in
set_option maxHeartbeats 4000000 in
theorem st_1038 (t : Fs.Tm) (ht : TmOk t) (F : Fr) (h15 : F.h = .int .i64 (t.hour : Nat)) {base : Nat} {v : Value} {l : List UInt8} (w : World) (hr : Row w base v l) (hb : base ≤ w.heap.size) (hl : l.length ≤ 70368744170000)
    (a : Act) (hA : AF a v F) (h19 : a.tmps.getD 19 undef = .int .i64 (1038)) (Q : Exit → Act → World → Prop) (HL : Left t (1038) F base v l w Q) : Code.wp Tryd.prog af22 Q a w := by
  obtain ⟨i0, hi, hz0, hz1, hz2⟩ := info_parts info_u8
  obtain ⟨y1, m1, m2, dd, yd, wd, hh, mm, ss, nn, nl, o1, o2, o3⟩ := ht
  have hm : bits BinOp.and IntKind.i64 1038 65535 = 1038 := by decide
  have HE : Hid (Fs.elem t 1038 = Fs.dg 2 (Fs.hr12 t.hour)) := by show _ = _; unfold Fs.elem; simp
  obtain ⟨k0, k1, h1, k2, k3, k7, k8, k9, k10, k11, k12, k13, k14, k15, k16, k17⟩ := hA
  obtain ⟨u, hu, ha⟩ := lay393 a k0 k1
  rw [hu] at h1 h19 k2 k3 k7 k8 k9 k10 k11 k12 k13 k14 k15 k16 k17
  have g15 := k15.trans h15
  rw [ha, h1, h19, g15]
  have K2 := hide k2
  have K3 := hide k3
  have K7 := hide k7
  have K8 := hide k8
  have K9 := hide k9
  have K10 := hide k10
  have K11 := hide k11
  have K12 := hide k12
  have K13 := hide k13
  have K14 := hide k14
  have K15 := hide k15
  have K16 := hide k16
  have K17 := hide k17
  have G15 := hide g15
  clear ha hu k0 k1 h1 h19 k2 k3 k7 k8 k9 k10 k11 k12 k13 k14 k15 k16 k17 g15 h15
  conv => arg 2; whnf
  by_cases h12 : t.hour % 12 = 0
  · have e1 : (((t.hour : Int) % 12) == 0) = true := by rw [beq_iff_eq]; omega
    have HE2 : Hid (Fs.elem t 1038 = Fs.dg 2 12) := by have := HE.out; unfold Fs.hr12 at this; rw [if_pos h12] at this; exact this
    clear h12
    go_wp2_with fail
    refine (appendInt_any 12 2 (by omega) (by omega) (by intro; omega) w hr hb (by omega)).mono ?_
    rintro e w4 ⟨v4, rfl, hr4, hg4⟩
    go_wp2_with fail
    exact HL _ _ _ ⟨rfl, rfl, rfl, K2.out, K3.out, K7.out, K8.out, K9.out, K10.out, K11.out, K12.out, K13.out, K14.out, G15.out.symm.trans K15.out, K16.out, K17.out⟩ (by rw [HE2.out]; exact hr4) hg4
  · have e1 : (((t.hour : Int) % 12) == 0) = false := by rw [beq_eq_false_iff_ne]; omega
    have HE2 : Hid (Fs.elem t 1038 = Fs.dg 2 (t.hour % 12)) := by have := HE.out; unfold Fs.hr12 at this; rw [if_neg h12] at this; exact this
    clear h12
    go_wp2_with fail
    refine (appendInt_any (t.hour % 12) 2 (by omega) (by omega) (by intro; omega) w hr hb (by omega)).mono ?_
    rintro e w4 ⟨v4, rfl, hr4, hg4⟩
    go_wp2_with fail
    exact HL _ _ _ ⟨rfl, rfl, rfl, K2.out, K3.out, K7.out, K8.out, K9.out, K10.out, K11.out, K12.out, K13.out, K14.out, G15.out.symm.trans K15.out, K16.out, K17.out⟩ (by rw [HE2.out]; exact hr4) hg4

end Go.Proofs.YtgcjhakhepgjlaaDoor
