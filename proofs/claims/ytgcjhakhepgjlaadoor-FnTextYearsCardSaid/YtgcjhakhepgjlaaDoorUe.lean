/-
  WALKS, times, part u: appendFormat's elements: offsets, none (printed by wip/py/gen_fmt.py).
-/
import Derived.Test.YtgcjhakhepgjlaaDoorT3
namespace Go.Proofs.YtgcjhakhepgjlaaDoor
open Go.RowKit
set_option linter.unusedVariables false
set_option linter.unusedSimpArgs false
attribute [local go_sem] ByteArray.extract_mk get_mk ByteArray.toList_mk ByteArray.mk_append_mk take_drop_len

set_option maxRecDepth 100000 in
set_option maxHeartbeats 4000000 in
theorem st_24_z (t : Fs.Tm) (ht : TmOk t) (F : Fr) (h0 : t.off = 0) (h8 : F.off = .int .i64 0) {base : Nat} {v : Value} {l : List UInt8} (w : World) (hr : Row w base v l) (hb : base ≤ w.heap.size) (hl : l.length ≤ 70368744170000)
    (a : Act) (hA : AF a v F) (h19 : a.tmps.getD 19 undef = .int .i64 (24)) (Q : Exit → Act → World → Prop) (HL : Left t (24) F base v l w Q) : Code.wp Tryd.prog af22 Q a w := by
  obtain ⟨i0, hi, hz0, hz1, hz2⟩ := info_parts info_u8
  obtain ⟨y1, m1, m2, dd, yd, wd, hh, mm, ss, nn, nl, o1, o2, o3⟩ := ht
  have hm : bits BinOp.and IntKind.i64 24 65535 = 24 := by decide
  have HE : Hid (Fs.elem t 24 = [90]) := by show _ = _; unfold Fs.elem; simp [h0]
  clear h0 o1 o2 o3
  obtain ⟨k0, k1, h1, k2, k3, k7, k8, k9, k10, k11, k12, k13, k14, k15, k16, k17⟩ := hA
  obtain ⟨u, hu, ha⟩ := lay393 a k0 k1
  rw [hu] at h1 h19 k2 k3 k7 k8 k9 k10 k11 k12 k13 k14 k15 k16 k17
  have g8 := k8.trans h8
  rw [ha, h1, h19, g8]
  have K2 := hide k2
  have K3 := hide k3
  have K7 := hide k7
  have K8 := hide k8
  have K9 := hide k9
  have K10 := hide k10
  have K11 := hide k11
  have K12 := hide k12
  have K13 := hide k13
  have K14 := hide k14
  have K15 := hide k15
  have K16 := hide k16
  have K17 := hide k17
  have G8 := hide g8
  clear ha hu k0 k1 h1 h19 k2 k3 k7 k8 k9 k10 k11 k12 k13 k14 k15 k16 k17  g8 h8
  conv => arg 2; whnf
  go_wp2_with (at_builtin; refine wpList_append_gr _ rfl (.tmp 281) (.tmp 282) 47 rfl 5 i0 (.int .u8 0) Tryd.underlying47 hi hz0 hz1 hz2 rfl rfl (hr.alloc _) (by simp; omega) ⟨w.heap.size, 0, none⟩ 1 1 [90] rfl rfl (news_new w _ _ _ _ (row1 rfl)) (by simp; omega) ?_; intro v3 w3 hr3 hg3)
  have g3 := ((Gr.refl w v).alloc (Obj.cells #[.int .u8 90] 5)).trans hg3
  go_wp2_with fail
  exact HL _ _ _ ⟨rfl, rfl, rfl, K2.out, K3.out, K7.out, G8.out.symm.trans K8.out, K9.out, K10.out, K11.out, K12.out, K13.out, K14.out, K15.out, K16.out, K17.out⟩ (by rw [HE.out]; exact hr3) g3

set_option maxRecDepth 100000 in
set_option maxHeartbeats 4000000 in
theorem st_25_z (t : Fs.Tm) (ht : TmOk t) (F : Fr) (h0 : t.off = 0) (h8 : F.off = .int .i64 0) {base : Nat} {v : Value} {l : List UInt8} (w : World) (hr : Row w base v l) (hb : base ≤ w.heap.size) (hl : l.length ≤ 70368744170000)
    (a : Act) (hA : AF a v F) (h19 : a.tmps.getD 19 undef = .int .i64 (25)) (Q : Exit → Act → World → Prop) (HL : Left t (25) F base v l w Q) : Code.wp Tryd.prog af22 Q a w := by
  obtain ⟨i0, hi, hz0, hz1, hz2⟩ := info_parts info_u8
  obtain ⟨y1, m1, m2, dd, yd, wd, hh, mm, ss, nn, nl, o1, o2, o3⟩ := ht
  have hm : bits BinOp.and IntKind.i64 25 65535 = 25 := by decide
  have HE : Hid (Fs.elem t 25 = [90]) := by show _ = _; unfold Fs.elem; simp [h0]
  clear h0 o1 o2 o3
  obtain ⟨k0, k1, h1, k2, k3, k7, k8, k9, k10, k11, k12, k13, k14, k15, k16, k17⟩ := hA
  obtain ⟨u, hu, ha⟩ := lay393 a k0 k1
  rw [hu] at h1 h19 k2 k3 k7 k8 k9 k10 k11 k12 k13 k14 k15 k16 k17
  have g8 := k8.trans h8
  rw [ha, h1, h19, g8]
  have K2 := hide k2
  have K3 := hide k3
  have K7 := hide k7
  have K8 := hide k8
  have K9 := hide k9
  have K10 := hide k10
  have K11 := hide k11
  have K12 := hide k12
  have K13 := hide k13
  have K14 := hide k14
  have K15 := hide k15
  have K16 := hide k16
  have K17 := hide k17
  have G8 := hide g8
  clear ha hu k0 k1 h1 h19 k2 k3 k7 k8 k9 k10 k11 k12 k13 k14 k15 k16 k17  g8 h8
  conv => arg 2; whnf
  go_wp2_with (at_builtin; refine wpList_append_gr _ rfl (.tmp 281) (.tmp 282) 47 rfl 5 i0 (.int .u8 0) Tryd.underlying47 hi hz0 hz1 hz2 rfl rfl (hr.alloc _) (by simp; omega) ⟨w.heap.size, 0, none⟩ 1 1 [90] rfl rfl (news_new w _ _ _ _ (row1 rfl)) (by simp; omega) ?_; intro v3 w3 hr3 hg3)
  have g3 := ((Gr.refl w v).alloc (Obj.cells #[.int .u8 90] 5)).trans hg3
  go_wp2_with fail
  exact HL _ _ _ ⟨rfl, rfl, rfl, K2.out, K3.out, K7.out, G8.out.symm.trans K8.out, K9.out, K10.out, K11.out, K12.out, K13.out, K14.out, K15.out, K16.out, K17.out⟩ (by rw [HE.out]; exact hr3) g3

set_option maxRecDepth 100000 in
set_option maxHeartbeats 4000000 in
theorem st_26_z (t : Fs.Tm) (ht : TmOk t) (F : Fr) (h0 : t.off = 0) (h8 : F.off = .int .i64 0) {base : Nat} {v : Value} {l : List UInt8} (w : World) (hr : Row w base v l) (hb : base ≤ w.heap.size) (hl : l.length ≤ 70368744170000)
    (a : Act) (hA : AF a v F) (h19 : a.tmps.getD 19 undef = .int .i64 (26)) (Q : Exit → Act → World → Prop) (HL : Left t (26) F base v l w Q) : Code.wp Tryd.prog af22 Q a w := by
  obtain ⟨i0, hi, hz0, hz1, hz2⟩ := info_parts info_u8
  obtain ⟨y1, m1, m2, dd, yd, wd, hh, mm, ss, nn, nl, o1, o2, o3⟩ := ht
  have hm : bits BinOp.and IntKind.i64 26 65535 = 26 := by decide
  have HE : Hid (Fs.elem t 26 = [90]) := by show _ = _; unfold Fs.elem; simp [h0]
  clear h0 o1 o2 o3
  obtain ⟨k0, k1, h1, k2, k3, k7, k8, k9, k10, k11, k12, k13, k14, k15, k16, k17⟩ := hA
  obtain ⟨u, hu, ha⟩ := lay393 a k0 k1
  rw [hu] at h1 h19 k2 k3 k7 k8 k9 k10 k11 k12 k13 k14 k15 k16 k17
  have g8 := k8.trans h8
  rw [ha, h1, h19, g8]
  have K2 := hide k2
  have K3 := hide k3
  have K7 := hide k7
  have K8 := hide k8
  have K9 := hide k9
  have K10 := hide k10
  have K11 := hide k11
  have K12 := hide k12
  have K13 := hide k13
  have K14 := hide k14
  have K15 := hide k15
  have K16 := hide k16
  have K17 := hide k17
  have G8 := hide g8
  clear ha hu k0 k1 h1 h19 k2 k3 k7 k8 k9 k10 k11 k12 k13 k14 k15 k16 k17  g8 h8
  conv => arg 2; whnf
  go_wp2_with (at_builtin; refine wpList_append_gr _ rfl (.tmp 281) (.tmp 282) 47 rfl 5 i0 (.int .u8 0) Tryd.underlying47 hi hz0 hz1 hz2 rfl rfl (hr.alloc _) (by simp; omega) ⟨w.heap.size, 0, none⟩ 1 1 [90] rfl rfl (news_new w _ _ _ _ (row1 rfl)) (by simp; omega) ?_; intro v3 w3 hr3 hg3)
  have g3 := ((Gr.refl w v).alloc (Obj.cells #[.int .u8 90] 5)).trans hg3
  go_wp2_with fail
  exact HL _ _ _ ⟨rfl, rfl, rfl, K2.out, K3.out, K7.out, G8.out.symm.trans K8.out, K9.out, K10.out, K11.out, K12.out, K13.out, K14.out, K15.out, K16.out, K17.out⟩ (by rw [HE.out]; exact hr3) g3

set_option maxRecDepth 100000 in
set_option maxHeartbeats 4000000 in
theorem st_27_z (t : Fs.Tm) (ht : TmOk t) (F : Fr) (h0 : t.off = 0) (h8 : F.off = .int .i64 0) {base : Nat} {v : Value} {l : List UInt8} (w : World) (hr : Row w base v l) (hb : base ≤ w.heap.size) (hl : l.length ≤ 70368744170000)
    (a : Act) (hA : AF a v F) (h19 : a.tmps.getD 19 undef = .int .i64 (27)) (Q : Exit → Act → World → Prop) (HL : Left t (27) F base v l w Q) : Code.wp Tryd.prog af22 Q a w := by
  obtain ⟨i0, hi, hz0, hz1, hz2⟩ := info_parts info_u8
  obtain ⟨y1, m1, m2, dd, yd, wd, hh, mm, ss, nn, nl, o1, o2, o3⟩ := ht
  have hm : bits BinOp.and IntKind.i64 27 65535 = 27 := by decide
  have HE : Hid (Fs.elem t 27 = [90]) := by show _ = _; unfold Fs.elem; simp [h0]
  clear h0 o1 o2 o3
  obtain ⟨k0, k1, h1, k2, k3, k7, k8, k9, k10, k11, k12, k13, k14, k15, k16, k17⟩ := hA
  obtain ⟨u, hu, ha⟩ := lay393 a k0 k1
  rw [hu] at h1 h19 k2 k3 k7 k8 k9 k10 k11 k12 k13 k14 k15 k16 k17
  have g8 := k8.trans h8
  rw [ha, h1, h19, g8]
  have K2 := hide k2
  have K3 := hide k3
  have K7 := hide k7
  have K8 := hide k8
  have K9 := hide k9
  have K10 := hide k10
  have K11 := hide k11
  have K12 := hide k12
  have K13 := hide k13
  have K14 := hide k14
  have K15 := hide k15
  have K16 := hide k16
  have K17 := hide k17
  have G8 := hide g8
  clear ha hu k0 k1 h1 h19 k2 k3 k7 k8 k9 k10 k11 k12 k13 k14 k15 k16 k17  g8 h8
  conv => arg 2; whnf
  go_wp2_with (at_builtin; refine wpList_append_gr _ rfl (.tmp 281) (.tmp 282) 47 rfl 5 i0 (.int .u8 0) Tryd.underlying47 hi hz0 hz1 hz2 rfl rfl (hr.alloc _) (by simp; omega) ⟨w.heap.size, 0, none⟩ 1 1 [90] rfl rfl (news_new w _ _ _ _ (row1 rfl)) (by simp; omega) ?_; intro v3 w3 hr3 hg3)
  have g3 := ((Gr.refl w v).alloc (Obj.cells #[.int .u8 90] 5)).trans hg3
  go_wp2_with fail
  exact HL _ _ _ ⟨rfl, rfl, rfl, K2.out, K3.out, K7.out, G8.out.symm.trans K8.out, K9.out, K10.out, K11.out, K12.out, K13.out, K14.out, K15.out, K16.out, K17.out⟩ (by rw [HE.out]; exact hr3) g3

set_option maxRecDepth 100000 in
set_option maxHeartbeats 4000000 in
theorem st_28_z (t : Fs.Tm) (ht : TmOk t) (F : Fr) (h0 : t.off = 0) (h8 : F.off = .int .i64 0) {base : Nat} {v : Value} {l : List UInt8} (w : World) (hr : Row w base v l) (hb : base ≤ w.heap.size) (hl : l.length ≤ 70368744170000)
    (a : Act) (hA : AF a v F) (h19 : a.tmps.getD 19 undef = .int .i64 (28)) (Q : Exit → Act → World → Prop) (HL : Left t (28) F base v l w Q) : Code.wp Tryd.prog af22 Q a w := by
  obtain ⟨i0, hi, hz0, hz1, hz2⟩ := info_parts info_u8
  obtain ⟨y1, m1, m2, dd, yd, wd, hh, mm, ss, nn, nl, o1, o2, o3⟩ := ht
  have hm : bits BinOp.and IntKind.i64 28 65535 = 28 := by decide
  have HE : Hid (Fs.elem t 28 = [90]) := by show _ = _; unfold Fs.elem; simp [h0]
  clear h0 o1 o2 o3
  obtain ⟨k0, k1, h1, k2, k3, k7, k8, k9, k10, k11, k12, k13, k14, k15, k16, k17⟩ := hA
  obtain ⟨u, hu, ha⟩ := lay393 a k0 k1
  rw [hu] at h1 h19 k2 k3 k7 k8 k9 k10 k11 k12 k13 k14 k15 k16 k17
  have g8 := k8.trans h8
  rw [ha, h1, h19, g8]
  have K2 := hide k2
  have K3 := hide k3
  have K7 := hide k7
  have K8 := hide k8
  have K9 := hide k9
  have K10 := hide k10
  have K11 := hide k11
  have K12 := hide k12
  have K13 := hide k13
  have K14 := hide k14
  have K15 := hide k15
  have K16 := hide k16
  have K17 := hide k17
  have G8 := hide g8
  clear ha hu k0 k1 h1 h19 k2 k3 k7 k8 k9 k10 k11 k12 k13 k14 k15 k16 k17  g8 h8
  conv => arg 2; whnf
  go_wp2_with (at_builtin; refine wpList_append_gr _ rfl (.tmp 281) (.tmp 282) 47 rfl 5 i0 (.int .u8 0) Tryd.underlying47 hi hz0 hz1 hz2 rfl rfl (hr.alloc _) (by simp; omega) ⟨w.heap.size, 0, none⟩ 1 1 [90] rfl rfl (news_new w _ _ _ _ (row1 rfl)) (by simp; omega) ?_; intro v3 w3 hr3 hg3)
  have g3 := ((Gr.refl w v).alloc (Obj.cells #[.int .u8 90] 5)).trans hg3
  go_wp2_with fail
  exact HL _ _ _ ⟨rfl, rfl, rfl, K2.out, K3.out, K7.out, G8.out.symm.trans K8.out, K9.out, K10.out, K11.out, K12.out, K13.out, K14.out, K15.out, K16.out, K17.out⟩ (by rw [HE.out]; exact hr3) g3

set_option maxRecDepth 100000 in
set_option maxHeartbeats 4000000 in
theorem st_29_z (t : Fs.Tm) (ht : TmOk t) (F : Fr) (h0 : t.off = 0) (h8 : F.off = .int .i64 0) {base : Nat} {v : Value} {l : List UInt8} (w : World) (hr : Row w base v l) (hb : base ≤ w.heap.size) (hl : l.length ≤ 70368744170000)
    (a : Act) (hA : AF a v F) (h19 : a.tmps.getD 19 undef = .int .i64 (29)) (Q : Exit → Act → World → Prop) (HL : Left t (29) F base v l w Q) : Code.wp Tryd.prog af22 Q a w := by
  obtain ⟨i0, hi, hz0, hz1, hz2⟩ := info_parts info_u8
  obtain ⟨y1, m1, m2, dd, yd, wd, hh, mm, ss, nn, nl, o1, o2, o3⟩ := ht
  have hm : bits BinOp.and IntKind.i64 29 65535 = 29 := by decide
  have HE : Hid (∀ l : List UInt8, l ++ Fs.elem t 29 = (((l ++ [43]) ++ Fs.dg 2 (0)) ++ Fs.dg 2 (0))) := by
    intro l
    have ha : t.off.natAbs = 0 := by omega
    have hn : ¬ t.off < 0 := by omega
    have he : Fs.elem t 29 = Fs.offs t.off true false false := by
      unfold Fs.elem
      simp
    rw [he]
    unfold Fs.offs
    rw [if_neg hn, ha]
    simp [Nat.div_div_eq_div_mul]
  have hd1 : (Fs.dg 2 (0)).length ≤ 2 := dg_two_le (by omega)
  have hd2 : (Fs.dg 2 (0)).length ≤ 2 := dg_two_le (by omega)
  have hd3 : (Fs.dg 2 (0)).length ≤ 2 := dg_two_le (by omega)
  clear h0 o1 o2 o3
  obtain ⟨k0, k1, h1, k2, k3, k7, k8, k9, k10, k11, k12, k13, k14, k15, k16, k17⟩ := hA
  obtain ⟨u, hu, ha⟩ := lay393 a k0 k1
  rw [hu] at h1 h19 k2 k3 k7 k8 k9 k10 k11 k12 k13 k14 k15 k16 k17
  have g8 := k8.trans h8
  rw [ha, h1, h19, g8]
  have K2 := hide k2
  have K3 := hide k3
  have K7 := hide k7
  have K8 := hide k8
  have K9 := hide k9
  have K10 := hide k10
  have K11 := hide k11
  have K12 := hide k12
  have K13 := hide k13
  have K14 := hide k14
  have K15 := hide k15
  have K16 := hide k16
  have K17 := hide k17
  have G8 := hide g8
  clear ha hu k0 k1 h1 h19 k2 k3 k7 k8 k9 k10 k11 k12 k13 k14 k15 k16 k17  g8 h8
  conv => arg 2; whnf
  go_wp2_with (at_builtin; refine wpList_append_gr _ rfl (.tmp 296) (.tmp 297) 47 rfl 5 i0 (.int .u8 0) Tryd.underlying47 hi hz0 hz1 hz2 rfl rfl (hr.alloc _) (by simp; omega) ⟨w.heap.size, 0, none⟩ 1 1 [43] rfl rfl (news_new w _ _ _ _ (row1 rfl)) (by simp; omega) ?_; intro v3 w3 hr3 hg3)
  have g3 := ((Gr.refl w v).alloc (Obj.cells #[.int .u8 43] 5)).trans hg3
  have hb3 : base ≤ w3.heap.size := Nat.le_trans hb g3.grown.size
  refine (appendInt_any (0) 2 (by omega) (by omega) (by intro; omega) w3 hr3 hb3 (by simp only [List.length_append, List.length_cons, List.length_nil]; omega)).mono ?_
  rintro e w4 ⟨v4, rfl, hr4, hg4⟩
  have g4 := g3.trans hg4
  have hb4 : base ≤ w4.heap.size := Nat.le_trans hb g4.grown.size
  clear hg4
  go_wp2_with fail
  refine (appendInt_any (0) 2 (by omega) (by omega) (by intro; omega) w4 hr4 hb4 (by simp only [List.length_append, List.length_cons, List.length_nil]; omega)).mono ?_
  rintro e w5 ⟨v5, rfl, hr5, hg5⟩
  have g5 := g4.trans hg5
  have hb5 : base ≤ w5.heap.size := Nat.le_trans hb g5.grown.size
  clear hg5
  go_wp2_with fail
  exact HL _ _ _ ⟨rfl, rfl, rfl, K2.out, K3.out, K7.out, G8.out.symm.trans K8.out, K9.out, K10.out, K11.out, K12.out, K13.out, K14.out, K15.out, K16.out, K17.out⟩ (by rw [HE.out]; exact hr5) g5

set_option maxRecDepth 100000 in
set_option maxHeartbeats 4000000 in
theorem st_30_z (t : Fs.Tm) (ht : TmOk t) (F : Fr) (h0 : t.off = 0) (h8 : F.off = .int .i64 0) {base : Nat} {v : Value} {l : List UInt8} (w : World) (hr : Row w base v l) (hb : base ≤ w.heap.size) (hl : l.length ≤ 70368744170000)
    (a : Act) (hA : AF a v F) (h19 : a.tmps.getD 19 undef = .int .i64 (30)) (Q : Exit → Act → World → Prop) (HL : Left t (30) F base v l w Q) : Code.wp Tryd.prog af22 Q a w := by
  obtain ⟨i0, hi, hz0, hz1, hz2⟩ := info_parts info_u8
  obtain ⟨y1, m1, m2, dd, yd, wd, hh, mm, ss, nn, nl, o1, o2, o3⟩ := ht
  have hm : bits BinOp.and IntKind.i64 30 65535 = 30 := by decide
  have HE : Hid (∀ l : List UInt8, l ++ Fs.elem t 30 = ((((l ++ [43]) ++ Fs.dg 2 (0)) ++ Fs.dg 2 (0)) ++ Fs.dg 2 (0))) := by
    intro l
    have ha : t.off.natAbs = 0 := by omega
    have hn : ¬ t.off < 0 := by omega
    have he : Fs.elem t 30 = Fs.offs t.off true true false := by
      unfold Fs.elem
      simp
    rw [he]
    unfold Fs.offs
    rw [if_neg hn, ha]
    simp [Nat.div_div_eq_div_mul]
  have hd1 : (Fs.dg 2 (0)).length ≤ 2 := dg_two_le (by omega)
  have hd2 : (Fs.dg 2 (0)).length ≤ 2 := dg_two_le (by omega)
  have hd3 : (Fs.dg 2 (0)).length ≤ 2 := dg_two_le (by omega)
  clear h0 o1 o2 o3
  obtain ⟨k0, k1, h1, k2, k3, k7, k8, k9, k10, k11, k12, k13, k14, k15, k16, k17⟩ := hA
  obtain ⟨u, hu, ha⟩ := lay393 a k0 k1
  rw [hu] at h1 h19 k2 k3 k7 k8 k9 k10 k11 k12 k13 k14 k15 k16 k17
  have g8 := k8.trans h8
  rw [ha, h1, h19, g8]
  have K2 := hide k2
  have K3 := hide k3
  have K7 := hide k7
  have K8 := hide k8
  have K9 := hide k9
  have K10 := hide k10
  have K11 := hide k11
  have K12 := hide k12
  have K13 := hide k13
  have K14 := hide k14
  have K15 := hide k15
  have K16 := hide k16
  have K17 := hide k17
  have G8 := hide g8
  clear ha hu k0 k1 h1 h19 k2 k3 k7 k8 k9 k10 k11 k12 k13 k14 k15 k16 k17  g8 h8
  conv => arg 2; whnf
  go_wp2_with (at_builtin; refine wpList_append_gr _ rfl (.tmp 296) (.tmp 297) 47 rfl 5 i0 (.int .u8 0) Tryd.underlying47 hi hz0 hz1 hz2 rfl rfl (hr.alloc _) (by simp; omega) ⟨w.heap.size, 0, none⟩ 1 1 [43] rfl rfl (news_new w _ _ _ _ (row1 rfl)) (by simp; omega) ?_; intro v3 w3 hr3 hg3)
  have g3 := ((Gr.refl w v).alloc (Obj.cells #[.int .u8 43] 5)).trans hg3
  have hb3 : base ≤ w3.heap.size := Nat.le_trans hb g3.grown.size
  refine (appendInt_any (0) 2 (by omega) (by omega) (by intro; omega) w3 hr3 hb3 (by simp only [List.length_append, List.length_cons, List.length_nil]; omega)).mono ?_
  rintro e w4 ⟨v4, rfl, hr4, hg4⟩
  have g4 := g3.trans hg4
  have hb4 : base ≤ w4.heap.size := Nat.le_trans hb g4.grown.size
  clear hg4
  go_wp2_with fail
  refine (appendInt_any (0) 2 (by omega) (by omega) (by intro; omega) w4 hr4 hb4 (by simp only [List.length_append, List.length_cons, List.length_nil]; omega)).mono ?_
  rintro e w5 ⟨v5, rfl, hr5, hg5⟩
  have g5 := g4.trans hg5
  have hb5 : base ≤ w5.heap.size := Nat.le_trans hb g5.grown.size
  clear hg5
  go_wp2_with fail
  refine (appendInt_any (0) 2 (by omega) (by omega) (by intro; omega) w5 hr5 hb5 (by simp only [List.length_append, List.length_cons, List.length_nil]; omega)).mono ?_
  rintro e w6 ⟨v6, rfl, hr6, hg6⟩
  have g6 := g5.trans hg6
  have hb6 : base ≤ w6.heap.size := Nat.le_trans hb g6.grown.size
  clear hg6
  go_wp2_with fail
  exact HL _ _ _ ⟨rfl, rfl, rfl, K2.out, K3.out, K7.out, G8.out.symm.trans K8.out, K9.out, K10.out, K11.out, K12.out, K13.out, K14.out, K15.out, K16.out, K17.out⟩ (by rw [HE.out]; exact hr6) g6

set_option maxRecDepth 100000 in
set_option maxHeartbeats 4000000 in
theorem st_31_z (t : Fs.Tm) (ht : TmOk t) (F : Fr) (h0 : t.off = 0) (h8 : F.off = .int .i64 0) {base : Nat} {v : Value} {l : List UInt8} (w : World) (hr : Row w base v l) (hb : base ≤ w.heap.size) (hl : l.length ≤ 70368744170000)
    (a : Act) (hA : AF a v F) (h19 : a.tmps.getD 19 undef = .int .i64 (31)) (Q : Exit → Act → World → Prop) (HL : Left t (31) F base v l w Q) : Code.wp Tryd.prog af22 Q a w := by
  obtain ⟨i0, hi, hz0, hz1, hz2⟩ := info_parts info_u8
  obtain ⟨y1, m1, m2, dd, yd, wd, hh, mm, ss, nn, nl, o1, o2, o3⟩ := ht
  have hm : bits BinOp.and IntKind.i64 31 65535 = 31 := by decide
  have HE : Hid (∀ l : List UInt8, l ++ Fs.elem t 31 = ((l ++ [43]) ++ Fs.dg 2 (0))) := by
    intro l
    have ha : t.off.natAbs = 0 := by omega
    have hn : ¬ t.off < 0 := by omega
    have he : Fs.elem t 31 = Fs.offs t.off false false false := by
      unfold Fs.elem
      simp
    rw [he]
    unfold Fs.offs
    rw [if_neg hn, ha]
    simp [Nat.div_div_eq_div_mul]
  have hd1 : (Fs.dg 2 (0)).length ≤ 2 := dg_two_le (by omega)
  have hd2 : (Fs.dg 2 (0)).length ≤ 2 := dg_two_le (by omega)
  have hd3 : (Fs.dg 2 (0)).length ≤ 2 := dg_two_le (by omega)
  clear h0 o1 o2 o3
  obtain ⟨k0, k1, h1, k2, k3, k7, k8, k9, k10, k11, k12, k13, k14, k15, k16, k17⟩ := hA
  obtain ⟨u, hu, ha⟩ := lay393 a k0 k1
  rw [hu] at h1 h19 k2 k3 k7 k8 k9 k10 k11 k12 k13 k14 k15 k16 k17
  have g8 := k8.trans h8
  rw [ha, h1, h19, g8]
  have K2 := hide k2
  have K3 := hide k3
  have K7 := hide k7
  have K8 := hide k8
  have K9 := hide k9
  have K10 := hide k10
  have K11 := hide k11
  have K12 := hide k12
  have K13 := hide k13
  have K14 := hide k14
  have K15 := hide k15
  have K16 := hide k16
  have K17 := hide k17
  have G8 := hide g8
  clear ha hu k0 k1 h1 h19 k2 k3 k7 k8 k9 k10 k11 k12 k13 k14 k15 k16 k17  g8 h8
  conv => arg 2; whnf
  go_wp2_with (at_builtin; refine wpList_append_gr _ rfl (.tmp 296) (.tmp 297) 47 rfl 5 i0 (.int .u8 0) Tryd.underlying47 hi hz0 hz1 hz2 rfl rfl (hr.alloc _) (by simp; omega) ⟨w.heap.size, 0, none⟩ 1 1 [43] rfl rfl (news_new w _ _ _ _ (row1 rfl)) (by simp; omega) ?_; intro v3 w3 hr3 hg3)
  have g3 := ((Gr.refl w v).alloc (Obj.cells #[.int .u8 43] 5)).trans hg3
  have hb3 : base ≤ w3.heap.size := Nat.le_trans hb g3.grown.size
  refine (appendInt_any (0) 2 (by omega) (by omega) (by intro; omega) w3 hr3 hb3 (by simp only [List.length_append, List.length_cons, List.length_nil]; omega)).mono ?_
  rintro e w4 ⟨v4, rfl, hr4, hg4⟩
  have g4 := g3.trans hg4
  have hb4 : base ≤ w4.heap.size := Nat.le_trans hb g4.grown.size
  clear hg4
  go_wp2_with fail
  exact HL _ _ _ ⟨rfl, rfl, rfl, K2.out, K3.out, K7.out, G8.out.symm.trans K8.out, K9.out, K10.out, K11.out, K12.out, K13.out, K14.out, K15.out, K16.out, K17.out⟩ (by rw [HE.out]; exact hr4) g4

set_option maxRecDepth 100000 in
set_option maxHeartbeats 4000000 in
theorem st_32_z (t : Fs.Tm) (ht : TmOk t) (F : Fr) (h0 : t.off = 0) (h8 : F.off = .int .i64 0) {base : Nat} {v : Value} {l : List UInt8} (w : World) (hr : Row w base v l) (hb : base ≤ w.heap.size) (hl : l.length ≤ 70368744170000)
    (a : Act) (hA : AF a v F) (h19 : a.tmps.getD 19 undef = .int .i64 (32)) (Q : Exit → Act → World → Prop) (HL : Left t (32) F base v l w Q) : Code.wp Tryd.prog af22 Q a w := by
  obtain ⟨i0, hi, hz0, hz1, hz2⟩ := info_parts info_u8
  obtain ⟨y1, m1, m2, dd, yd, wd, hh, mm, ss, nn, nl, o1, o2, o3⟩ := ht
  have hm : bits BinOp.and IntKind.i64 32 65535 = 32 := by decide
  have HE : Hid (∀ l : List UInt8, l ++ Fs.elem t 32 = ((((l ++ [43]) ++ Fs.dg 2 (0)) ++ [58]) ++ Fs.dg 2 (0))) := by
    intro l
    have ha : t.off.natAbs = 0 := by omega
    have hn : ¬ t.off < 0 := by omega
    have he : Fs.elem t 32 = Fs.offs t.off true false true := by
      unfold Fs.elem
      simp
    rw [he]
    unfold Fs.offs
    rw [if_neg hn, ha]
    simp [Nat.div_div_eq_div_mul]
  have hd1 : (Fs.dg 2 (0)).length ≤ 2 := dg_two_le (by omega)
  have hd2 : (Fs.dg 2 (0)).length ≤ 2 := dg_two_le (by omega)
  have hd3 : (Fs.dg 2 (0)).length ≤ 2 := dg_two_le (by omega)
  clear h0 o1 o2 o3
  obtain ⟨k0, k1, h1, k2, k3, k7, k8, k9, k10, k11, k12, k13, k14, k15, k16, k17⟩ := hA
  obtain ⟨u, hu, ha⟩ := lay393 a k0 k1
  rw [hu] at h1 h19 k2 k3 k7 k8 k9 k10 k11 k12 k13 k14 k15 k16 k17
  have g8 := k8.trans h8
  rw [ha, h1, h19, g8]
  have K2 := hide k2
  have K3 := hide k3
  have K7 := hide k7
  have K8 := hide k8
  have K9 := hide k9
  have K10 := hide k10
  have K11 := hide k11
  have K12 := hide k12
  have K13 := hide k13
  have K14 := hide k14
  have K15 := hide k15
  have K16 := hide k16
  have K17 := hide k17
  have G8 := hide g8
  clear ha hu k0 k1 h1 h19 k2 k3 k7 k8 k9 k10 k11 k12 k13 k14 k15 k16 k17  g8 h8
  conv => arg 2; whnf
  go_wp2_with (at_builtin; refine wpList_append_gr _ rfl (.tmp 296) (.tmp 297) 47 rfl 5 i0 (.int .u8 0) Tryd.underlying47 hi hz0 hz1 hz2 rfl rfl (hr.alloc _) (by simp; omega) ⟨w.heap.size, 0, none⟩ 1 1 [43] rfl rfl (news_new w _ _ _ _ (row1 rfl)) (by simp; omega) ?_; intro v3 w3 hr3 hg3)
  have g3 := ((Gr.refl w v).alloc (Obj.cells #[.int .u8 43] 5)).trans hg3
  have hb3 : base ≤ w3.heap.size := Nat.le_trans hb g3.grown.size
  refine (appendInt_any (0) 2 (by omega) (by omega) (by intro; omega) w3 hr3 hb3 (by simp only [List.length_append, List.length_cons, List.length_nil]; omega)).mono ?_
  rintro e w4 ⟨v4, rfl, hr4, hg4⟩
  have g4 := g3.trans hg4
  have hb4 : base ≤ w4.heap.size := Nat.le_trans hb g4.grown.size
  clear hg4
  go_wp2_with (at_builtin; refine wpList_append_gr _ rfl (.tmp 317) (.tmp 318) 47 rfl 5 i0 (.int .u8 0) Tryd.underlying47 hi hz0 hz1 hz2 rfl rfl (hr4.alloc _) (by simp; omega) ⟨w4.heap.size, 0, none⟩ 1 1 [58] rfl rfl (news_new w4 _ _ _ _ (row1 rfl)) (by simp only [List.length_append, List.length_cons, List.length_nil]; omega) ?_; intro v5 w5 hr5 hg5)
  have g5 := (g4.alloc (Obj.cells #[.int .u8 58] 5)).trans hg5
  have hb5 : base ≤ w5.heap.size := Nat.le_trans hb g5.grown.size
  clear hg5
  refine (appendInt_any (0) 2 (by omega) (by omega) (by intro; omega) w5 hr5 hb5 (by simp only [List.length_append, List.length_cons, List.length_nil]; omega)).mono ?_
  rintro e w6 ⟨v6, rfl, hr6, hg6⟩
  have g6 := g5.trans hg6
  have hb6 : base ≤ w6.heap.size := Nat.le_trans hb g6.grown.size
  clear hg6
  go_wp2_with fail
  exact HL _ _ _ ⟨rfl, rfl, rfl, K2.out, K3.out, K7.out, G8.out.symm.trans K8.out, K9.out, K10.out, K11.out, K12.out, K13.out, K14.out, K15.out, K16.out, K17.out⟩ (by rw [HE.out]; exact hr6) g6

set_option maxRecDepth 100000 in
set_option maxHeartbeats 4000000 in
theorem st_33_z (t : Fs.Tm) (ht : TmOk t) (F : Fr) (h0 : t.off = 0) (h8 : F.off = .int .i64 0) {base : Nat} {v : Value} {l : List UInt8} (w : World) (hr : Row w base v l) (hb : base ≤ w.heap.size) (hl : l.length ≤ 70368744170000)
    (a : Act) (hA : AF a v F) (h19 : a.tmps.getD 19 undef = .int .i64 (33)) (Q : Exit → Act → World → Prop) (HL : Left t (33) F base v l w Q) : Code.wp Tryd.prog af22 Q a w := by
  obtain ⟨i0, hi, hz0, hz1, hz2⟩ := info_parts info_u8
  obtain ⟨y1, m1, m2, dd, yd, wd, hh, mm, ss, nn, nl, o1, o2, o3⟩ := ht
  have hm : bits BinOp.and IntKind.i64 33 65535 = 33 := by decide
  have HE : Hid (∀ l : List UInt8, l ++ Fs.elem t 33 = ((((((l ++ [43]) ++ Fs.dg 2 (0)) ++ [58]) ++ Fs.dg 2 (0)) ++ [58]) ++ Fs.dg 2 (0))) := by
    intro l
    have ha : t.off.natAbs = 0 := by omega
    have hn : ¬ t.off < 0 := by omega
    have he : Fs.elem t 33 = Fs.offs t.off true true true := by
      unfold Fs.elem
      simp
    rw [he]
    unfold Fs.offs
    rw [if_neg hn, ha]
    simp [Nat.div_div_eq_div_mul]
  have hd1 : (Fs.dg 2 (0)).length ≤ 2 := dg_two_le (by omega)
  have hd2 : (Fs.dg 2 (0)).length ≤ 2 := dg_two_le (by omega)
  have hd3 : (Fs.dg 2 (0)).length ≤ 2 := dg_two_le (by omega)
  clear h0 o1 o2 o3
  obtain ⟨k0, k1, h1, k2, k3, k7, k8, k9, k10, k11, k12, k13, k14, k15, k16, k17⟩ := hA
  obtain ⟨u, hu, ha⟩ := lay393 a k0 k1
  rw [hu] at h1 h19 k2 k3 k7 k8 k9 k10 k11 k12 k13 k14 k15 k16 k17
  have g8 := k8.trans h8
  rw [ha, h1, h19, g8]
  have K2 := hide k2
  have K3 := hide k3
  have K7 := hide k7
  have K8 := hide k8
  have K9 := hide k9
  have K10 := hide k10
  have K11 := hide k11
  have K12 := hide k12
  have K13 := hide k13
  have K14 := hide k14
  have K15 := hide k15
  have K16 := hide k16
  have K17 := hide k17
  have G8 := hide g8
  clear ha hu k0 k1 h1 h19 k2 k3 k7 k8 k9 k10 k11 k12 k13 k14 k15 k16 k17  g8 h8
  conv => arg 2; whnf
  go_wp2_with (at_builtin; refine wpList_append_gr _ rfl (.tmp 296) (.tmp 297) 47 rfl 5 i0 (.int .u8 0) Tryd.underlying47 hi hz0 hz1 hz2 rfl rfl (hr.alloc _) (by simp; omega) ⟨w.heap.size, 0, none⟩ 1 1 [43] rfl rfl (news_new w _ _ _ _ (row1 rfl)) (by simp; omega) ?_; intro v3 w3 hr3 hg3)
  have g3 := ((Gr.refl w v).alloc (Obj.cells #[.int .u8 43] 5)).trans hg3
  have hb3 : base ≤ w3.heap.size := Nat.le_trans hb g3.grown.size
  refine (appendInt_any (0) 2 (by omega) (by omega) (by intro; omega) w3 hr3 hb3 (by simp only [List.length_append, List.length_cons, List.length_nil]; omega)).mono ?_
  rintro e w4 ⟨v4, rfl, hr4, hg4⟩
  have g4 := g3.trans hg4
  have hb4 : base ≤ w4.heap.size := Nat.le_trans hb g4.grown.size
  clear hg4
  go_wp2_with (at_builtin; refine wpList_append_gr _ rfl (.tmp 317) (.tmp 318) 47 rfl 5 i0 (.int .u8 0) Tryd.underlying47 hi hz0 hz1 hz2 rfl rfl (hr4.alloc _) (by simp; omega) ⟨w4.heap.size, 0, none⟩ 1 1 [58] rfl rfl (news_new w4 _ _ _ _ (row1 rfl)) (by simp only [List.length_append, List.length_cons, List.length_nil]; omega) ?_; intro v5 w5 hr5 hg5)
  have g5 := (g4.alloc (Obj.cells #[.int .u8 58] 5)).trans hg5
  have hb5 : base ≤ w5.heap.size := Nat.le_trans hb g5.grown.size
  clear hg5
  refine (appendInt_any (0) 2 (by omega) (by omega) (by intro; omega) w5 hr5 hb5 (by simp only [List.length_append, List.length_cons, List.length_nil]; omega)).mono ?_
  rintro e w6 ⟨v6, rfl, hr6, hg6⟩
  have g6 := g5.trans hg6
  have hb6 : base ≤ w6.heap.size := Nat.le_trans hb g6.grown.size
  clear hg6
  go_wp2_with (at_builtin; refine wpList_append_gr _ rfl (.tmp 350) (.tmp 351) 47 rfl 5 i0 (.int .u8 0) Tryd.underlying47 hi hz0 hz1 hz2 rfl rfl (hr6.alloc _) (by simp; omega) ⟨w6.heap.size, 0, none⟩ 1 1 [58] rfl rfl (news_new w6 _ _ _ _ (row1 rfl)) (by simp only [List.length_append, List.length_cons, List.length_nil]; omega) ?_; intro v7 w7 hr7 hg7)
  have g7 := (g6.alloc (Obj.cells #[.int .u8 58] 5)).trans hg7
  have hb7 : base ≤ w7.heap.size := Nat.le_trans hb g7.grown.size
  clear hg7
  refine (appendInt_any (0) 2 (by omega) (by omega) (by intro; omega) w7 hr7 hb7 (by simp only [List.length_append, List.length_cons, List.length_nil]; omega)).mono ?_
  rintro e w8 ⟨v8, rfl, hr8, hg8⟩
  have g8 := g7.trans hg8
  have hb8 : base ≤ w8.heap.size := Nat.le_trans hb g8.grown.size
  clear hg8
  go_wp2_with fail
  exact HL _ _ _ ⟨rfl, rfl, rfl, K2.out, K3.out, K7.out, G8.out.symm.trans K8.out, K9.out, K10.out, K11.out, K12.out, K13.out, K14.out, K15.out, K16.out, K17.out⟩ (by rw [HE.out]; exact hr8) g8

end Go.Proofs.YtgcjhakhepgjlaaDoor
