/-
  WALKS, times, part u: appendFormat: fractions; what stands ahead of the switch; every element (printed by wip/py/gen_fmt2.py).
-/
import Derived.Test.YtgcjhakhepgjlaaDoorU1
import Derived.Test.YtgcjhakhepgjlaaDoorUf
import Derived.Test.YtgcjhakhepgjlaaDoorUg
import Derived.Test.YtgcjhakhepgjlaaDoorP2
namespace Go.Proofs.YtgcjhakhepgjlaaDoor
open Go.RowKit
set_option linter.unusedVariables false
set_option linter.unusedSimpArgs false
attribute [local go_sem] ByteArray.extract_mk get_mk ByteArray.toList_mk ByteArray.mk_append_mk take_drop_len

/-- what a time's numbers are to each other -/
structure TmD (t : Fs.Tm) : Prop where
  ok : TmOk t
  date : Fs.Valid (t.year : Int) t.month t.day
  clock : Fs.VClock t.hour t.min t.sec t.nano
  yd : t.yday = Fs.yearDay (t.year : Int) t.month t.day
  wd : (Fs.absDays (t.year : Int) t.month t.day + 3) % 7 = t.wday
  n0 : t.name ≠ []
/-- what the frame holds of the time -/
structure FX (t : Fs.Tm) (F : Fr) : Prop where
  nm : F.nm = .string ⟨t.name.toArray⟩
  off : F.off = .int .i64 t.off
  abs : F.abs = .int .u64 ((Fs.absDays (t.year : Int) t.month t.day * 86400 + (t.hour * 3600 + t.min * 60 + t.sec) : Nat) : Int)
  days : F.days = .int .u64 ((Fs.absDays (t.year : Int) t.month t.day : Nat) : Int)
  date : F.y = .int .i64 (-1) ∨ (F.y = .int .i64 (t.year : Nat) ∧ F.mo = .int .i64 (t.month : Nat) ∧ F.d = .int .i64 (t.day : Nat))
  yd : F.yd = .int .i64 (-1) ∨ F.yd = .int .i64 (t.yday : Nat)
  clk : F.h = .int .i64 (-1) ∨ (F.h = .int .i64 (t.hour : Nat) ∧ F.mi = .int .i64 (t.min : Nat) ∧ F.s = .int .i64 (t.sec : Nat))

set_option maxRecDepth 100000 in
set_option maxHeartbeats 4000000 in
theorem st_frac_34 (t : Fs.Tm) (ht : TmOk t) (F : Fr) (tb : Nat) (x3 : F.ptr = .pointer (some ⟨tb, 0, none⟩)) (ext : Int) (q : Option Addr) {base : Nat} {v : Value} {l : List UInt8} (w : World) (TC : TCell w tb t.nano ext (.pointer q)) (hr : Row w base v l) (hb : base ≤ w.heap.size) (hl : l.length ≤ 70368744170000)
    (S : Nat) (hS : S < 1099511627776) (hc : S % 65536 = 34) (dot : UInt8) (hdot : dot = if S / 268435456 = 0 then 46 else 44) (HE : Hid (Fs.elem t (S : Int) = Fs.nanoT (S % 65536 == 35) (S / 65536 % 4096) dot t.nano))
    (a : Act) (hA : AF a v F) (h19 : a.tmps.getD 19 undef = .int .i64 (S : Int)) (Q : Exit → Act → World → Prop) (HL : Left t (S : Int) F base v l w Q) : Code.wp Tryd.prog af22 Q a w := by
  obtain ⟨y1, m1, m2, dd, yd, wd, hh, mm, ss, nn, nl, o1, o2, o3⟩ := ht
  have hb1 := i64_and S 65535 (by omega) (by omega)
  rw [Nat.and_two_pow_sub_one_eq_mod _ 16, hc] at hb1
  have hm : bits BinOp.and IntKind.i64 (S : Int) 65535 = 34 := hb1
  clear hb1
  have HC := hide (show S % 65536 = 34 ∨ S % 65536 = 35 by omega)
  have HD := hide hdot
  clear hc hdot
  obtain ⟨k0, k1, h1, k2, k3, k7, k8, k9, k10, k11, k12, k13, k14, k15, k16, k17⟩ := hA
  obtain ⟨u, hu, ha⟩ := lay393 a k0 k1
  rw [hu] at h1 h19 k2 k3 k7 k8 k9 k10 k11 k12 k13 k14 k15 k16 k17
  have g3 := k3.trans x3
  rw [ha, h1, h19, g3]
  have K2 := hide k2
  have K3 := hide k3
  have K7 := hide k7
  have K8 := hide k8
  have K9 := hide k9
  have K10 := hide k10
  have K11 := hide k11
  have K12 := hide k12
  have K13 := hide k13
  have K14 := hide k14
  have K15 := hide k15
  have K16 := hide k16
  have K17 := hide k17
  have G3 := hide g3
  clear ha hu k0 k1 h1 h19 k2 k3 k7 k8 k9 k10 k11 k12 k13 k14 k15 k16 k17 g3
  obtain ⟨c0, c1, c2⟩ := TC
  clear x3
  conv => arg 2; whnf
  go_wp2_with fail
  refine (Nanosecond_any t.nano nn ext (.pointer q) _).mono ?_
  rintro e w2 ⟨rfl, hb2⟩
  have hr2 := hr.below hb2
  have hs2 := Nat.le_trans hb hb2.size
  have g2 := (Gr.refl w v).then_below hb2
  clear hb2 c0 c1 c2
  go_wp2_with fail
  refine (appendNano_any t.nano S nn hS HC.out dot HD.out w2 hr2 hs2 (by omega)).mono ?_
  rintro e w3 ⟨v3, rfl, hr3, hg3⟩
  go_wp2_with fail
  exact HL _ _ _ ⟨rfl, rfl, rfl, K2.out, G3.out.symm.trans K3.out, K7.out, K8.out, K9.out, K10.out, K11.out, K12.out, K13.out, K14.out, K15.out, K16.out, K17.out⟩ (by rw [HE.out]; exact hr3) (g2.trans hg3)

set_option maxRecDepth 100000 in
set_option maxHeartbeats 4000000 in
theorem st_frac_35 (t : Fs.Tm) (ht : TmOk t) (F : Fr) (tb : Nat) (x3 : F.ptr = .pointer (some ⟨tb, 0, none⟩)) (ext : Int) (q : Option Addr) {base : Nat} {v : Value} {l : List UInt8} (w : World) (TC : TCell w tb t.nano ext (.pointer q)) (hr : Row w base v l) (hb : base ≤ w.heap.size) (hl : l.length ≤ 70368744170000)
    (S : Nat) (hS : S < 1099511627776) (hc : S % 65536 = 35) (dot : UInt8) (hdot : dot = if S / 268435456 = 0 then 46 else 44) (HE : Hid (Fs.elem t (S : Int) = Fs.nanoT (S % 65536 == 35) (S / 65536 % 4096) dot t.nano))
    (a : Act) (hA : AF a v F) (h19 : a.tmps.getD 19 undef = .int .i64 (S : Int)) (Q : Exit → Act → World → Prop) (HL : Left t (S : Int) F base v l w Q) : Code.wp Tryd.prog af22 Q a w := by
  obtain ⟨y1, m1, m2, dd, yd, wd, hh, mm, ss, nn, nl, o1, o2, o3⟩ := ht
  have hb1 := i64_and S 65535 (by omega) (by omega)
  rw [Nat.and_two_pow_sub_one_eq_mod _ 16, hc] at hb1
  have hm : bits BinOp.and IntKind.i64 (S : Int) 65535 = 35 := hb1
  clear hb1
  have HC := hide (show S % 65536 = 34 ∨ S % 65536 = 35 by omega)
  have HD := hide hdot
  clear hc hdot
  obtain ⟨k0, k1, h1, k2, k3, k7, k8, k9, k10, k11, k12, k13, k14, k15, k16, k17⟩ := hA
  obtain ⟨u, hu, ha⟩ := lay393 a k0 k1
  rw [hu] at h1 h19 k2 k3 k7 k8 k9 k10 k11 k12 k13 k14 k15 k16 k17
  have g3 := k3.trans x3
  rw [ha, h1, h19, g3]
  have K2 := hide k2
  have K3 := hide k3
  have K7 := hide k7
  have K8 := hide k8
  have K9 := hide k9
  have K10 := hide k10
  have K11 := hide k11
  have K12 := hide k12
  have K13 := hide k13
  have K14 := hide k14
  have K15 := hide k15
  have K16 := hide k16
  have K17 := hide k17
  have G3 := hide g3
  clear ha hu k0 k1 h1 h19 k2 k3 k7 k8 k9 k10 k11 k12 k13 k14 k15 k16 k17 g3
  obtain ⟨c0, c1, c2⟩ := TC
  clear x3
  conv => arg 2; whnf
  go_wp2_with fail
  refine (Nanosecond_any t.nano nn ext (.pointer q) _).mono ?_
  rintro e w2 ⟨rfl, hb2⟩
  have hr2 := hr.below hb2
  have hs2 := Nat.le_trans hb hb2.size
  have g2 := (Gr.refl w v).then_below hb2
  clear hb2 c0 c1 c2
  go_wp2_with fail
  refine (appendNano_any t.nano S nn hS HC.out dot HD.out w2 hr2 hs2 (by omega)).mono ?_
  rintro e w3 ⟨v3, rfl, hr3, hg3⟩
  go_wp2_with fail
  exact HL _ _ _ ⟨rfl, rfl, rfl, K2.out, G3.out.symm.trans K3.out, K7.out, K8.out, K9.out, K10.out, K11.out, K12.out, K13.out, K14.out, K15.out, K16.out, K17.out⟩ (by rw [HE.out]; exact hr3) (g2.trans hg3)

def seqFst : Code → Code
  | .seq a _ => a
  | c => c
def seqSnd : Code → Code
  | .seq _ b => b
  | c => c
def blkBody : Code → Code
  | .block _ c => c
  | c => c
noncomputable def afBody : Code := (Tryd.f77.body.bind firstLoop).getD .skip
noncomputable def af10 : Code := seqFst afBody
noncomputable def af11 : Code := seqFst (blkBody (seqSnd afBody))
noncomputable def af12 : Code := seqFst (seqSnd (blkBody (seqSnd afBody)))
noncomputable def af14 : Code := seqFst (seqSnd (seqSnd (blkBody (seqSnd afBody))))
noncomputable def af15 : Code := seqFst (seqSnd (seqSnd (seqSnd (blkBody (seqSnd afBody)))))
noncomputable def af16x : Code := seqFst af16
noncomputable def af18x : Code := seqFst af18
noncomputable def af20x : Code := seqFst af20
theorem afBody_eq : afBody = .seq af10 (.block 1 (.seq af11 (.seq af12 (.seq af14 (.seq af15 af16))))) := by kernel_rfl
theorem af16_eq : af16 = .seq af16x af18 := by kernel_rfl
theorem af18_eq : af18 = .seq af18x af20 := by kernel_rfl
theorem af20_eq : af20 = .seq af20x af22 := by kernel_rfl

set_option maxRecDepth 100000 in
set_option maxHeartbeats 4000000 in
theorem stage16 (t : Fs.Tm) (TD : TmD t) (F : Fr) (X : FX t F) (S z : Int) (hz : bits BinOp.and IntKind.i64 S 256 = z) (v : Value) (a : Act) (hA : AF a v F) (h19 : a.tmps.getD 19 undef = .int .i64 S) (w : World) (Q : Exit → Act → World → Prop)
    (H : ∀ a' w' F', Qt w w' → AF a' v F' → a'.tmps.getD 19 undef = .int .i64 S → FX t F' → F'.ptr = F.ptr → F'.rest = F.rest → (z ≠ 0 → F'.y = .int .i64 (t.year : Nat) ∧ F'.mo = .int .i64 (t.month : Nat) ∧ F'.d = .int .i64 (t.day : Nat)) → Code.wp Tryd.prog af18 Q a' w') : Code.wp Tryd.prog af16 Q a w := by
  have HT := hide TD
  have HX := hide X
  have x10 := X.days
  have hcall := date_any TD.date
  rw [af16_eq]
  refine wp_seq_k ?_
  intro K hK
  have HK := hide (fun a' w' h => hK a' w' h)
  have HH := hide H
  clear H hK TD
  rcases X.date with x11 | ⟨x11, x12, x13⟩
  · clear X
    by_cases h0 : z = 0
    · have e0 : (z == 0) = true := by rw [beq_iff_eq]; exact h0
      obtain ⟨k0, k1, h1, k2, k3, k7, k8, k9, k10, k11, k12, k13, k14, k15, k16, k17⟩ := hA
      obtain ⟨u, hu, ha⟩ := lay393 a k0 k1
      rw [hu] at h1 h19 k2 k3 k7 k8 k9 k10 k11 k12 k13 k14 k15 k16 k17
      have g11 := k11.trans x11
      have g10 := k10.trans x10
      rw [ha, h1, h19, g11, g10]
      have K2 := hide k2
      have K3 := hide k3
      have K7 := hide k7
      have K8 := hide k8
      have K9 := hide k9
      have K10 := hide k10
      have K11 := hide k11
      have K12 := hide k12
      have K13 := hide k13
      have K14 := hide k14
      have K15 := hide k15
      have K16 := hide k16
      have K17 := hide k17
      have G11 := hide g11
      have G10 := hide g10
      clear ha hu k0 k1 h1 h19 k2 k3 k7 k8 k9 k10 k11 k12 k13 k14 k15 k16 k17 g11 g10
      clear h0 x11 x10 hcall
      conv => arg 2; whnf
      go_wp2_with fail
      exact HK.out _ _ (HH.out _ _ F (Qt.refl _) ⟨rfl, rfl, rfl, K2.out, K3.out, K7.out, K8.out, K9.out, G10.out.symm.trans K10.out, G11.out.symm.trans K11.out, K12.out, K13.out, K14.out, K15.out, K16.out, K17.out⟩ rfl HX.out rfl rfl (fun h => absurd (by simpa using e0) h))
    · have e0 : (z == 0) = false := by rw [beq_eq_false_iff_ne]; exact h0
      obtain ⟨k0, k1, h1, k2, k3, k7, k8, k9, k10, k11, k12, k13, k14, k15, k16, k17⟩ := hA
      obtain ⟨u, hu, ha⟩ := lay393 a k0 k1
      rw [hu] at h1 h19 k2 k3 k7 k8 k9 k10 k11 k12 k13 k14 k15 k16 k17
      have g11 := k11.trans x11
      have g10 := k10.trans x10
      rw [ha, h1, h19, g11, g10]
      have K2 := hide k2
      have K3 := hide k3
      have K7 := hide k7
      have K8 := hide k8
      have K9 := hide k9
      have K10 := hide k10
      have K11 := hide k11
      have K12 := hide k12
      have K13 := hide k13
      have K14 := hide k14
      have K15 := hide k15
      have K16 := hide k16
      have K17 := hide k17
      have G11 := hide g11
      have G10 := hide g10
      clear ha hu k0 k1 h1 h19 k2 k3 k7 k8 k9 k10 k11 k12 k13 k14 k15 k16 k17 g11 g10
      clear h0 x11 x10
      have HCL := hide hcall
      clear hcall
      conv => arg 2; whnf
      go_wp2_with fail
      refine (HCL.out _).mono ?_
      rintro e w2 ⟨rfl, hq⟩
      go_wp2_with fail
      have X := HX.out
      exact HK.out _ _ (HH.out _ _ { F with y := .int .i64 (t.year : Nat), mo := .int .i64 (t.month : Nat), d := .int .i64 (t.day : Nat) } hq ⟨rfl, rfl, rfl, K2.out, K3.out, K7.out, K8.out, K9.out, G10.out.symm.trans K10.out, rfl, rfl, rfl, K14.out, K15.out, K16.out, K17.out⟩ rfl ⟨X.nm, X.off, X.abs, X.days, .inr ⟨rfl, rfl, rfl⟩, X.yd, X.clk⟩ rfl rfl (fun _ => ⟨rfl, rfl, rfl⟩))
  · clear X hcall
    have ny : ¬ ((t.year : Nat) : Int) < 0 := by omega
    obtain ⟨k0, k1, h1, k2, k3, k7, k8, k9, k10, k11, k12, k13, k14, k15, k16, k17⟩ := hA
    obtain ⟨u, hu, ha⟩ := lay393 a k0 k1
    rw [hu] at h1 h19 k2 k3 k7 k8 k9 k10 k11 k12 k13 k14 k15 k16 k17
    have g11 := k11.trans x11
    have g12 := k12.trans x12
    have g13 := k13.trans x13
    rw [ha, h1, h19, g11, g12, g13]
    have K2 := hide k2
    have K3 := hide k3
    have K7 := hide k7
    have K8 := hide k8
    have K9 := hide k9
    have K10 := hide k10
    have K11 := hide k11
    have K12 := hide k12
    have K13 := hide k13
    have K14 := hide k14
    have K15 := hide k15
    have K16 := hide k16
    have K17 := hide k17
    have G11 := hide g11
    have G12 := hide g12
    have G13 := hide g13
    clear ha hu k0 k1 h1 h19 k2 k3 k7 k8 k9 k10 k11 k12 k13 k14 k15 k16 k17 g11 g12 g13
    have HG := hide (show F.y = .int .i64 (t.year : Nat) ∧ F.mo = .int .i64 (t.month : Nat) ∧ F.d = .int .i64 (t.day : Nat) from ⟨x11, x12, x13⟩)
    clear x11 x12 x13 x10
    conv => arg 2; whnf
    go_wp2_with fail
    exact HK.out _ _ (HH.out _ _ F (Qt.refl _) ⟨rfl, rfl, rfl, K2.out, K3.out, K7.out, K8.out, K9.out, K10.out, G11.out.symm.trans K11.out, G12.out.symm.trans K12.out, G13.out.symm.trans K13.out, K14.out, K15.out, K16.out, K17.out⟩ rfl HX.out rfl rfl (fun _ => HG.out))

set_option maxRecDepth 100000 in
set_option maxHeartbeats 4000000 in
theorem stage18 (t : Fs.Tm) (TD : TmD t) (F : Fr) (X : FX t F) (S z : Int) (hz : bits BinOp.and IntKind.i64 S 512 = z) (v : Value) (a : Act) (hA : AF a v F) (h19 : a.tmps.getD 19 undef = .int .i64 S) (w : World) (Q : Exit → Act → World → Prop)
    (H : ∀ a' w' F', Qt w w' → AF a' v F' → a'.tmps.getD 19 undef = .int .i64 S → FX t F' → F'.ptr = F.ptr → F'.rest = F.rest → F'.y = F.y → F'.mo = F.mo → F'.d = F.d → (z ≠ 0 → F'.yd = .int .i64 (t.yday : Nat)) → Code.wp Tryd.prog af20 Q a' w') : Code.wp Tryd.prog af18 Q a w := by
  have HT := hide TD
  have HX := hide X
  have x10 := X.days
  have hcall := yearYday_any TD.date
  rw [af18_eq]
  refine wp_seq_k ?_
  intro K hK
  have HK := hide (fun a' w' h => hK a' w' h)
  have HH := hide H
  clear H hK TD
  rcases X.yd with x14 | x14
  · clear X
    by_cases h0 : z = 0
    · have e0 : (z == 0) = true := by rw [beq_iff_eq]; exact h0
      obtain ⟨k0, k1, h1, k2, k3, k7, k8, k9, k10, k11, k12, k13, k14, k15, k16, k17⟩ := hA
      obtain ⟨u, hu, ha⟩ := lay393 a k0 k1
      rw [hu] at h1 h19 k2 k3 k7 k8 k9 k10 k11 k12 k13 k14 k15 k16 k17
      have g14 := k14.trans x14
      have g10 := k10.trans x10
      rw [ha, h1, h19, g14, g10]
      have K2 := hide k2
      have K3 := hide k3
      have K7 := hide k7
      have K8 := hide k8
      have K9 := hide k9
      have K10 := hide k10
      have K11 := hide k11
      have K12 := hide k12
      have K13 := hide k13
      have K14 := hide k14
      have K15 := hide k15
      have K16 := hide k16
      have K17 := hide k17
      have G14 := hide g14
      have G10 := hide g10
      clear ha hu k0 k1 h1 h19 k2 k3 k7 k8 k9 k10 k11 k12 k13 k14 k15 k16 k17 g14 g10
      clear h0 x14 x10 hcall
      conv => arg 2; whnf
      go_wp2_with fail
      exact HK.out _ _ (HH.out _ _ F (Qt.refl _) ⟨rfl, rfl, rfl, K2.out, K3.out, K7.out, K8.out, K9.out, G10.out.symm.trans K10.out, K11.out, K12.out, K13.out, G14.out.symm.trans K14.out, K15.out, K16.out, K17.out⟩ rfl HX.out rfl rfl rfl rfl rfl (fun h => absurd (by simpa using e0) h))
    · have e0 : (z == 0) = false := by rw [beq_eq_false_iff_ne]; exact h0
      obtain ⟨k0, k1, h1, k2, k3, k7, k8, k9, k10, k11, k12, k13, k14, k15, k16, k17⟩ := hA
      obtain ⟨u, hu, ha⟩ := lay393 a k0 k1
      rw [hu] at h1 h19 k2 k3 k7 k8 k9 k10 k11 k12 k13 k14 k15 k16 k17
      have g14 := k14.trans x14
      have g10 := k10.trans x10
      rw [ha, h1, h19, g14, g10]
      have K2 := hide k2
      have K3 := hide k3
      have K7 := hide k7
      have K8 := hide k8
      have K9 := hide k9
      have K10 := hide k10
      have K11 := hide k11
      have K12 := hide k12
      have K13 := hide k13
      have K14 := hide k14
      have K15 := hide k15
      have K16 := hide k16
      have K17 := hide k17
      have G14 := hide g14
      have G10 := hide g10
      clear ha hu k0 k1 h1 h19 k2 k3 k7 k8 k9 k10 k11 k12 k13 k14 k15 k16 k17 g14 g10
      clear h0 x14 x10
      have HCL := hide hcall
      clear hcall
      conv => arg 2; whnf
      go_wp2_with fail
      refine (HCL.out _).mono ?_
      rw [← HT.out.yd]
      rintro e w2 ⟨rfl, hq⟩
      go_wp2_with fail
      have X := HX.out
      exact HK.out _ _ (HH.out _ _ { F with yd := .int .i64 (t.yday : Nat) } hq ⟨rfl, rfl, rfl, K2.out, K3.out, K7.out, K8.out, K9.out, G10.out.symm.trans K10.out, K11.out, K12.out, K13.out, rfl, K15.out, K16.out, K17.out⟩ rfl ⟨X.nm, X.off, X.abs, X.days, X.date, .inr rfl, X.clk⟩ rfl rfl rfl rfl rfl (fun _ => rfl))
  · clear X hcall
    have ny : ¬ ((t.yday : Nat) : Int) < 0 := by omega
    obtain ⟨k0, k1, h1, k2, k3, k7, k8, k9, k10, k11, k12, k13, k14, k15, k16, k17⟩ := hA
    obtain ⟨u, hu, ha⟩ := lay393 a k0 k1
    rw [hu] at h1 h19 k2 k3 k7 k8 k9 k10 k11 k12 k13 k14 k15 k16 k17
    have g14 := k14.trans x14
    rw [ha, h1, h19, g14]
    have K2 := hide k2
    have K3 := hide k3
    have K7 := hide k7
    have K8 := hide k8
    have K9 := hide k9
    have K10 := hide k10
    have K11 := hide k11
    have K12 := hide k12
    have K13 := hide k13
    have K14 := hide k14
    have K15 := hide k15
    have K16 := hide k16
    have K17 := hide k17
    have G14 := hide g14
    clear ha hu k0 k1 h1 h19 k2 k3 k7 k8 k9 k10 k11 k12 k13 k14 k15 k16 k17 g14
    have HG := hide (show F.yd = .int .i64 (t.yday : Nat) from x14)
    clear x14 x10
    conv => arg 2; whnf
    go_wp2_with fail
    exact HK.out _ _ (HH.out _ _ F (Qt.refl _) ⟨rfl, rfl, rfl, K2.out, K3.out, K7.out, K8.out, K9.out, K10.out, K11.out, K12.out, K13.out, G14.out.symm.trans K14.out, K15.out, K16.out, K17.out⟩ rfl HX.out rfl rfl rfl rfl rfl (fun _ => HG.out))

set_option maxRecDepth 100000 in
set_option maxHeartbeats 4000000 in
theorem stage20 (t : Fs.Tm) (TD : TmD t) (F : Fr) (X : FX t F) (S z : Int) (hz : bits BinOp.and IntKind.i64 S 1024 = z) (v : Value) (a : Act) (hA : AF a v F) (h19 : a.tmps.getD 19 undef = .int .i64 S) (w : World) (Q : Exit → Act → World → Prop)
    (H : ∀ a' w' F', Qt w w' → AF a' v F' → a'.tmps.getD 19 undef = .int .i64 S → FX t F' → F'.ptr = F.ptr → F'.rest = F.rest → F'.y = F.y → F'.mo = F.mo → F'.d = F.d → F'.yd = F.yd → (z ≠ 0 → F'.h = .int .i64 (t.hour : Nat) ∧ F'.mi = .int .i64 (t.min : Nat) ∧ F'.s = .int .i64 (t.sec : Nat)) → Code.wp Tryd.prog af22 Q a' w') : Code.wp Tryd.prog af20 Q a w := by
  have HT := hide TD
  have HX := hide X
  have x9 := X.abs
  have hcall := clock_any (D := Fs.absDays (t.year : Int) t.month t.day) (by have := Fs.absDays_lt TD.date; omega) TD.clock
  rw [af20_eq]
  refine wp_seq_k ?_
  intro K hK
  have HK := hide (fun a' w' h => hK a' w' h)
  have HH := hide H
  clear H hK TD
  rcases X.clk with x15 | ⟨x15, x16, x17⟩
  · clear X
    by_cases h0 : z = 0
    · have e0 : (z == 0) = true := by rw [beq_iff_eq]; exact h0
      obtain ⟨k0, k1, h1, k2, k3, k7, k8, k9, k10, k11, k12, k13, k14, k15, k16, k17⟩ := hA
      obtain ⟨u, hu, ha⟩ := lay393 a k0 k1
      rw [hu] at h1 h19 k2 k3 k7 k8 k9 k10 k11 k12 k13 k14 k15 k16 k17
      have g15 := k15.trans x15
      have g9 := k9.trans x9
      rw [ha, h1, h19, g15, g9]
      have K2 := hide k2
      have K3 := hide k3
      have K7 := hide k7
      have K8 := hide k8
      have K9 := hide k9
      have K10 := hide k10
      have K11 := hide k11
      have K12 := hide k12
      have K13 := hide k13
      have K14 := hide k14
      have K15 := hide k15
      have K16 := hide k16
      have K17 := hide k17
      have G15 := hide g15
      have G9 := hide g9
      clear ha hu k0 k1 h1 h19 k2 k3 k7 k8 k9 k10 k11 k12 k13 k14 k15 k16 k17 g15 g9
      clear h0 x15 x9 hcall
      conv => arg 2; whnf
      go_wp2_with fail
      exact HK.out _ _ (HH.out _ _ F (Qt.refl _) ⟨rfl, rfl, rfl, K2.out, K3.out, K7.out, K8.out, G9.out.symm.trans K9.out, K10.out, K11.out, K12.out, K13.out, K14.out, G15.out.symm.trans K15.out, K16.out, K17.out⟩ rfl HX.out rfl rfl rfl rfl rfl rfl (fun h => absurd (by simpa using e0) h))
    · have e0 : (z == 0) = false := by rw [beq_eq_false_iff_ne]; exact h0
      obtain ⟨k0, k1, h1, k2, k3, k7, k8, k9, k10, k11, k12, k13, k14, k15, k16, k17⟩ := hA
      obtain ⟨u, hu, ha⟩ := lay393 a k0 k1
      rw [hu] at h1 h19 k2 k3 k7 k8 k9 k10 k11 k12 k13 k14 k15 k16 k17
      have g15 := k15.trans x15
      have g9 := k9.trans x9
      rw [ha, h1, h19, g15, g9]
      have K2 := hide k2
      have K3 := hide k3
      have K7 := hide k7
      have K8 := hide k8
      have K9 := hide k9
      have K10 := hide k10
      have K11 := hide k11
      have K12 := hide k12
      have K13 := hide k13
      have K14 := hide k14
      have K15 := hide k15
      have K16 := hide k16
      have K17 := hide k17
      have G15 := hide g15
      have G9 := hide g9
      clear ha hu k0 k1 h1 h19 k2 k3 k7 k8 k9 k10 k11 k12 k13 k14 k15 k16 k17 g15 g9
      clear h0 x15 x9
      have HCL := hide hcall
      clear hcall
      conv => arg 2; whnf
      go_wp2_with fail
      refine (HCL.out _).mono ?_
      rintro e w2 ⟨rfl, hq⟩
      go_wp2_with fail
      have X := HX.out
      exact HK.out _ _ (HH.out _ _ { F with h := .int .i64 (t.hour : Nat), mi := .int .i64 (t.min : Nat), s := .int .i64 (t.sec : Nat) } hq ⟨rfl, rfl, rfl, K2.out, K3.out, K7.out, K8.out, G9.out.symm.trans K9.out, K10.out, K11.out, K12.out, K13.out, K14.out, rfl, rfl, rfl⟩ rfl ⟨X.nm, X.off, X.abs, X.days, X.date, X.yd, .inr ⟨rfl, rfl, rfl⟩⟩ rfl rfl rfl rfl rfl rfl (fun _ => ⟨rfl, rfl, rfl⟩))
  · clear X hcall
    have ny : ¬ ((t.hour : Nat) : Int) < 0 := by omega
    obtain ⟨k0, k1, h1, k2, k3, k7, k8, k9, k10, k11, k12, k13, k14, k15, k16, k17⟩ := hA
    obtain ⟨u, hu, ha⟩ := lay393 a k0 k1
    rw [hu] at h1 h19 k2 k3 k7 k8 k9 k10 k11 k12 k13 k14 k15 k16 k17
    have g15 := k15.trans x15
    have g16 := k16.trans x16
    have g17 := k17.trans x17
    rw [ha, h1, h19, g15, g16, g17]
    have K2 := hide k2
    have K3 := hide k3
    have K7 := hide k7
    have K8 := hide k8
    have K9 := hide k9
    have K10 := hide k10
    have K11 := hide k11
    have K12 := hide k12
    have K13 := hide k13
    have K14 := hide k14
    have K15 := hide k15
    have K16 := hide k16
    have K17 := hide k17
    have G15 := hide g15
    have G16 := hide g16
    have G17 := hide g17
    clear ha hu k0 k1 h1 h19 k2 k3 k7 k8 k9 k10 k11 k12 k13 k14 k15 k16 k17 g15 g16 g17
    have HG := hide (show F.h = .int .i64 (t.hour : Nat) ∧ F.mi = .int .i64 (t.min : Nat) ∧ F.s = .int .i64 (t.sec : Nat) from ⟨x15, x16, x17⟩)
    clear x15 x16 x17 x9
    conv => arg 2; whnf
    go_wp2_with fail
    exact HK.out _ _ (HH.out _ _ F (Qt.refl _) ⟨rfl, rfl, rfl, K2.out, K3.out, K7.out, K8.out, K9.out, K10.out, K11.out, K12.out, K13.out, K14.out, G15.out.symm.trans K15.out, G16.out.symm.trans K16.out, G17.out.symm.trans K17.out⟩ rfl HX.out rfl rfl rfl rfl rfl rfl (fun _ => HG.out))

end Go.Proofs.YtgcjhakhepgjlaaDoor
