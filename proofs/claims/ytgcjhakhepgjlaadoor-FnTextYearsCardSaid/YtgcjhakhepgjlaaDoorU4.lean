/-
  WALKS, times, part u: appendFormat: every element (printed by wip/py/gen_fmt2.py).
-/
import Derived.Test.YtgcjhakhepgjlaaDoorUh0
import Derived.Test.YtgcjhakhepgjlaaDoorUe
import Derived.Test.YtgcjhakhepgjlaaDoorS1
namespace Go.Proofs.YtgcjhakhepgjlaaDoor
open Go.RowKit
set_option linter.unusedVariables false
set_option linter.unusedSimpArgs false
attribute [local go_sem] ByteArray.extract_mk get_mk ByteArray.toList_mk ByteArray.mk_append_mk take_drop_len

theorem frac_nat {code n : Nat} {c : UInt8} (hc : c = 46 ∨ c = 44) : Fs.frac (code : Int) n c = ((code + n % 4096 * 65536 + (if c = 46 then 0 else 268435456) : Nat) : Int) := by
  unfold Fs.frac
  rcases hc with rfl | rfl
  · simp
  · simp
theorem frac_mod (code : Int) (n : Nat) (c : UInt8) : Fs.frac code n c = Fs.frac code (n % 4096) c := by
  unfold Fs.frac
  rw [Nat.mod_mod]
theorem st_all (t : Fs.Tm) (TD : TmD t) (F : Fr) (X : FX t F) (tb : Nat) (x3 : F.ptr = .pointer (some ⟨tb, 0, none⟩)) (ext : Int) (q : Option Addr) {base : Nat} {v : Value} {l : List UInt8} (w : World) (TC : TCell w tb t.nano ext (.pointer q)) (hr : Row w base v l) (hb : base ≤ w.heap.size) (hl : l.length ≤ 70368744170000)
    (S : Int) (hS : Fs.StdOk S) (hd : bits BinOp.and IntKind.i64 S 256 ≠ 0 → F.y = .int .i64 (t.year : Nat) ∧ F.mo = .int .i64 (t.month : Nat) ∧ F.d = .int .i64 (t.day : Nat)) (hy : bits BinOp.and IntKind.i64 S 512 ≠ 0 → F.yd = .int .i64 (t.yday : Nat))
    (hc : bits BinOp.and IntKind.i64 S 1024 ≠ 0 → F.h = .int .i64 (t.hour : Nat) ∧ F.mi = .int .i64 (t.min : Nat) ∧ F.s = .int .i64 (t.sec : Nat))
    (a : Act) (hA : AF a v F) (h19 : a.tmps.getD 19 undef = .int .i64 S) (Q : Exit → Act → World → Prop) (HL : Left t S F base v l w Q) : Code.wp Tryd.prog af22 Q a w := by
  have ht := TD.ok
  have hD := Fs.absDays_lt TD.date
  rcases hS with hS | ⟨code, n, c, hcode, hc2, hn, rfl⟩
  · simp only [Fs.stdList, List.mem_cons, List.not_mem_nil, or_false] at hS
    rcases hS with rfl | rfl | rfl | rfl | rfl | rfl | rfl | rfl | rfl | rfl | rfl | rfl | rfl | rfl | rfl | rfl | rfl | rfl | rfl | rfl | rfl | rfl | rfl | rfl | rfl | rfl | rfl | rfl | rfl | rfl | rfl | rfl | rfl
    · exact st_276 t ht F (hd (by decide)).1 w hr hb hl a hA h19 Q HL
    · exact st_275 t ht F (hd (by decide)).1 w hr hb hl a hA h19 Q HL
    · exact st_258 t ht F (hd (by decide)).2.1 w hr hb hl a hA h19 Q HL
    · exact st_257 t ht F (hd (by decide)).2.1 w hr hb hl a hA h19 Q HL
    · exact st_259 t ht F (hd (by decide)).2.1 w hr hb hl a hA h19 Q HL
    · exact st_260 t ht F (hd (by decide)).2.1 w hr hb hl a hA h19 Q HL
    · exact st_262 t ht F _ (by omega) TD.wd X.days w hr hb hl a hA h19 Q HL
    · exact st_261 t ht F _ (by omega) TD.wd X.days w hr hb hl a hA h19 Q HL
    · exact st_263 t ht F (hd (by decide)).2.2 w hr hb hl a hA h19 Q HL
    · exact st_264 t ht F (hd (by decide)).2.2 w hr hb hl a hA h19 Q HL
    · exact st_265 t ht F (hd (by decide)).2.2 w hr hb hl a hA h19 Q HL
    · exact st_522 t ht F (hy (by decide)) w hr hb hl a hA h19 Q HL
    · exact st_523 t ht F (hy (by decide)) w hr hb hl a hA h19 Q HL
    · exact st_1036 t ht F (hc (by decide)).1 w hr hb hl a hA h19 Q HL
    · exact st_1037 t ht F (hc (by decide)).1 w hr hb hl a hA h19 Q HL
    · exact st_1038 t ht F (hc (by decide)).1 w hr hb hl a hA h19 Q HL
    · exact st_1039 t ht F (hc (by decide)).2.1 w hr hb hl a hA h19 Q HL
    · exact st_1040 t ht F (hc (by decide)).2.1 w hr hb hl a hA h19 Q HL
    · exact st_1041 t ht F (hc (by decide)).2.2 w hr hb hl a hA h19 Q HL
    · exact st_1042 t ht F (hc (by decide)).2.2 w hr hb hl a hA h19 Q HL
    · exact st_1045 t ht F (hc (by decide)).1 w hr hb hl a hA h19 Q HL
    · exact st_1046 t ht F (hc (by decide)).1 w hr hb hl a hA h19 Q HL
    · exact st_23 t ht F TD.n0 X.nm w hr hb hl a hA h19 Q HL
    · rcases ht.o3 with h0 | h0 | h0
      · exact st_24_z t ht F h0 (X.off.trans (by rw [h0])) w hr hb hl a hA h19 Q HL
      · exact st_24_p t ht F t.off.natAbs (by omega) (by omega) (X.off.trans (by congr 1; omega)) w hr hb hl a hA h19 Q HL
      · exact st_24_n t ht F t.off.natAbs (by omega) (by omega) (X.off.trans (by congr 1; omega)) w hr hb hl a hA h19 Q HL
    · rcases ht.o3 with h0 | h0 | h0
      · exact st_25_z t ht F h0 (X.off.trans (by rw [h0])) w hr hb hl a hA h19 Q HL
      · exact st_25_p t ht F t.off.natAbs (by omega) (by omega) (X.off.trans (by congr 1; omega)) w hr hb hl a hA h19 Q HL
      · exact st_25_n t ht F t.off.natAbs (by omega) (by omega) (X.off.trans (by congr 1; omega)) w hr hb hl a hA h19 Q HL
    · rcases ht.o3 with h0 | h0 | h0
      · exact st_26_z t ht F h0 (X.off.trans (by rw [h0])) w hr hb hl a hA h19 Q HL
      · exact st_26_p t ht F t.off.natAbs (by omega) (by omega) (X.off.trans (by congr 1; omega)) w hr hb hl a hA h19 Q HL
      · exact st_26_n t ht F t.off.natAbs (by omega) (by omega) (X.off.trans (by congr 1; omega)) w hr hb hl a hA h19 Q HL
    · rcases ht.o3 with h0 | h0 | h0
      · exact st_27_z t ht F h0 (X.off.trans (by rw [h0])) w hr hb hl a hA h19 Q HL
      · exact st_27_p t ht F t.off.natAbs (by omega) (by omega) (X.off.trans (by congr 1; omega)) w hr hb hl a hA h19 Q HL
      · exact st_27_n t ht F t.off.natAbs (by omega) (by omega) (X.off.trans (by congr 1; omega)) w hr hb hl a hA h19 Q HL
    · rcases ht.o3 with h0 | h0 | h0
      · exact st_28_z t ht F h0 (X.off.trans (by rw [h0])) w hr hb hl a hA h19 Q HL
      · exact st_28_p t ht F t.off.natAbs (by omega) (by omega) (X.off.trans (by congr 1; omega)) w hr hb hl a hA h19 Q HL
      · exact st_28_n t ht F t.off.natAbs (by omega) (by omega) (X.off.trans (by congr 1; omega)) w hr hb hl a hA h19 Q HL
    · rcases ht.o3 with h0 | h0 | h0
      · exact st_29_z t ht F h0 (X.off.trans (by rw [h0])) w hr hb hl a hA h19 Q HL
      · exact st_29_p t ht F t.off.natAbs (by omega) (by omega) (X.off.trans (by congr 1; omega)) w hr hb hl a hA h19 Q HL
      · exact st_29_n t ht F t.off.natAbs (by omega) (by omega) (X.off.trans (by congr 1; omega)) w hr hb hl a hA h19 Q HL
    · rcases ht.o3 with h0 | h0 | h0
      · exact st_30_z t ht F h0 (X.off.trans (by rw [h0])) w hr hb hl a hA h19 Q HL
      · exact st_30_p t ht F t.off.natAbs (by omega) (by omega) (X.off.trans (by congr 1; omega)) w hr hb hl a hA h19 Q HL
      · exact st_30_n t ht F t.off.natAbs (by omega) (by omega) (X.off.trans (by congr 1; omega)) w hr hb hl a hA h19 Q HL
    · rcases ht.o3 with h0 | h0 | h0
      · exact st_31_z t ht F h0 (X.off.trans (by rw [h0])) w hr hb hl a hA h19 Q HL
      · exact st_31_p t ht F t.off.natAbs (by omega) (by omega) (X.off.trans (by congr 1; omega)) w hr hb hl a hA h19 Q HL
      · exact st_31_n t ht F t.off.natAbs (by omega) (by omega) (X.off.trans (by congr 1; omega)) w hr hb hl a hA h19 Q HL
    · rcases ht.o3 with h0 | h0 | h0
      · exact st_32_z t ht F h0 (X.off.trans (by rw [h0])) w hr hb hl a hA h19 Q HL
      · exact st_32_p t ht F t.off.natAbs (by omega) (by omega) (X.off.trans (by congr 1; omega)) w hr hb hl a hA h19 Q HL
      · exact st_32_n t ht F t.off.natAbs (by omega) (by omega) (X.off.trans (by congr 1; omega)) w hr hb hl a hA h19 Q HL
    · rcases ht.o3 with h0 | h0 | h0
      · exact st_33_z t ht F h0 (X.off.trans (by rw [h0])) w hr hb hl a hA h19 Q HL
      · exact st_33_p t ht F t.off.natAbs (by omega) (by omega) (X.off.trans (by congr 1; omega)) w hr hb hl a hA h19 Q HL
      · exact st_33_n t ht F t.off.natAbs (by omega) (by omega) (X.off.trans (by congr 1; omega)) w hr hb hl a hA h19 Q HL
  · have hm : n % 4096 < 4096 := Nat.mod_lt _ (by omega)
    have HE : Fs.elem t (Fs.frac code n c) = Fs.nanoT (code == 35) (n % 4096) c t.nano := by
      rw [frac_mod]
      exact Fs.frac_elem t code hcode (n % 4096) hm c hc2
    rcases hcode with rfl | rfl
    · obtain ⟨S, hS⟩ : ∃ S, S = 34 + n % 4096 * 65536 + (if c = 46 then 0 else 268435456) := ⟨_, rfl⟩
      have hf : Fs.frac 34 n c = (S : Int) := (frac_nat (code := 34) hc2).trans (by rw [hS])
      have h1 : S % 65536 = 34 := by rcases hc2 with rfl | rfl <;> simp at hS <;> omega
      have h2 : S / 65536 % 4096 = n % 4096 := by rcases hc2 with rfl | rfl <;> simp at hS <;> omega
      have h3 : c = if S / 268435456 = 0 then 46 else 44 := by
        rcases hc2 with rfl | rfl <;> simp at hS
        · rw [if_pos (by omega)]
        · rw [if_neg (by omega)]
      have h4 : S < 1099511627776 := by rcases hc2 with rfl | rfl <;> simp at hS <;> omega
      rw [hf] at h19 HL HE
      exact st_frac_34 t ht F tb x3 ext q w TC hr hb hl S h4 h1 c h3 (by show _ = _; rw [HE, h1, h2]; rfl) a hA h19 Q HL
    · obtain ⟨S, hS⟩ : ∃ S, S = 35 + n % 4096 * 65536 + (if c = 46 then 0 else 268435456) := ⟨_, rfl⟩
      have hf : Fs.frac 35 n c = (S : Int) := (frac_nat (code := 35) hc2).trans (by rw [hS])
      have h1 : S % 65536 = 35 := by rcases hc2 with rfl | rfl <;> simp at hS <;> omega
      have h2 : S / 65536 % 4096 = n % 4096 := by rcases hc2 with rfl | rfl <;> simp at hS <;> omega
      have h3 : c = if S / 268435456 = 0 then 46 else 44 := by
        rcases hc2 with rfl | rfl <;> simp at hS
        · rw [if_pos (by omega)]
        · rw [if_neg (by omega)]
      have h4 : S < 1099511627776 := by rcases hc2 with rfl | rfl <;> simp at hS <;> omega
      rw [hf] at h19 HL HE
      exact st_frac_35 t ht F tb x3 ext q w TC hr hb hl S h4 h1 c h3 (by show _ = _; rw [HE, h1, h2]; rfl) a hA h19 Q HL
end Go.Proofs.YtgcjhakhepgjlaaDoor

/-
  WALKS, times, part u: appendFormat: the round of its loop (printed by wip/py/gen_fmt2.py).
-/
namespace Go.Proofs.YtgcjhakhepgjlaaDoor
open Go.RowKit
set_option linter.unusedVariables false
set_option linter.unusedSimpArgs false
attribute [local go_sem] ByteArray.extract_mk get_mk ByteArray.toList_mk ByteArray.mk_append_mk take_drop_len

theorem HStd.gr {w w' : World} {v0 v : Value} (E : HStd w) (G : Gr w w' v0 v) (hne : v0.ownBlock ≠ some 3) : HStd w' :=
  ⟨G.cell E.1 hne, G.cell E.2.1 hne, G.cell E.2.2.1 hne, G.cell E.2.2.2.1 hne, G.cell E.2.2.2.2.1 hne, G.cell E.2.2.2.2.2 hne⟩
theorem TCell.gr {w w' : World} {v0 v : Value} {tb ns : Nat} {ext : Int} {lv : Value} (T : TCell w tb ns ext lv) (G : Gr w w' v0 v) (hne : v0.ownBlock ≠ some tb) : TCell w' tb ns ext lv := ⟨G.cell T.c0 hne, G.cell T.c1 hne, G.cell T.c2 hne⟩

namespace Fs
theorem ite_len {k : Nat} {c : Prop} [Decidable c] {a b : Bs} (ha : a.length ≤ k) (hb : b.length ≤ k) : (if c then a else b).length ≤ k := by
  by_cases h : c
  · rw [if_pos h]; exact ha
  · rw [if_neg h]; exact hb
theorem dg_le {W n : Nat} (hn : n < 10 ^ 9) (hW : W ≤ 9) : (dg W n).length ≤ 9 := by
  have := dig_lt 8 n hn
  simp [dg, pad]
  omega
theorem offs_le {off : Int} {a b c : Bool} (h1 : -100000 ≤ off) (h2 : off ≤ 100000) : (offs off a b c).length ≤ 1000 := by
  unfold offs
  have h := dg_le (W := 2) (n := off.natAbs / 3600) (by omega) (by omega)
  have h' := dg_le (W := 2) (n := off.natAbs / 60 % 60) (by omega) (by omega)
  have h'' := dg_le (W := 2) (n := off.natAbs % 60) (by omega) (by omega)
  cases a <;> cases b <;> cases c <;> simp <;> (split <;> simp <;> omega)
theorem nanoT_le {a : Bool} {n nano : Nat} {c : UInt8} (h : nano ≤ 999999999) : (nanoT a n c nano).length ≤ 1000 := by
  have := dg_le (W := 9) (n := nano) (by omega) (by omega)
  unfold nanoT
  refine ite_len (ite_len (by simp) ?_) ?_
  · simp; omega
  · simp; omega
theorem elem_le {t : Tm} (ht : TmOk t) (s : Int) : (elem t s).length ≤ 1000 := by
  obtain ⟨y1, m1, m2, dd, yd, wd, hh, mm, ss, nn, nl, o1, o2, o3⟩ := ht
  have hmn := monthName_len t.month
  have hdn := dayName_len t.wday
  have hdg : ∀ W n : Nat, n < 10 ^ 9 → W ≤ 9 → (dg W n).length ≤ 1000 := fun W n h1 h2 => Nat.le_trans (dg_le h1 h2) (by omega)
  have h12 : hr12 t.hour ≤ 12 := by unfold hr12; split <;> omega
  have q1 := dg_le (W := 0) (n := t.day) (by omega) (by omega)
  have q2 := dg_le (W := 0) (n := t.yday) (by omega) (by omega)
  have q3 := dg_le (W := 2) (n := t.off.natAbs / 3600) (by omega) (by omega)
  have q4 := dg_le (W := 2) (n := t.off.natAbs / 60 % 60) (by omega) (by omega)
  unfold elem
  repeat' (with_reducible refine ite_len ?_ ?_)
  all_goals first
    | with_reducible exact hdg _ _ (by omega) (by omega)
    | with_reducible exact offs_le o1 o2
    | with_reducible exact nanoT_le nn
    | with_reducible exact nl
    | with_reducible exact Nat.le_trans hmn (by omega)
    | with_reducible exact Nat.le_trans hdn (by omega)
    | (simp only [List.length_take]; omega)
    | (simp only [List.length_cons, List.length_nil]; omega)
    | (simp only [List.length_append]; (repeat' split) <;> simp <;> omega)
end Fs

set_option maxRecDepth 100000 in
set_option maxHeartbeats 4000000 in
theorem af_rest (t : Fs.Tm) (TD : TmD t) (F : Fr) (X : FX t F) (tb : Nat) (x3 : F.ptr = .pointer (some ⟨tb, 0, none⟩)) (ext : Int) (q : Option Addr) {base : Nat} {v : Value} {l : List UInt8} (w : World) (TC : TCell w tb t.nano ext (.pointer q)) (hr : Row w base v l) (hb : base ≤ w.heap.size) (hl : l.length ≤ 70368744170000)
    (s : Int) (r : List UInt8) (hS : s ≠ 0 → Fs.StdOk s) (a : Act) (hA : AF a v F) (h19 : a.tmps.getD 19 undef = .int .i64 s) (h20 : a.tmps.getD 20 undef = .string ⟨r.toArray⟩) (Q : Exit → Act → World → Prop) (hend : s = 0 → ∀ a', AF a' v F → Q (.exit 0) a' w)
    (hgo : s ≠ 0 → ∀ a' w' v' F', AF a' v' F' → FX t F' → F'.rest = .string ⟨r.toArray⟩ → F'.ptr = F.ptr → Row w' base v' (l ++ Fs.elem t s) → Gr w w' v v' → Q .normal a' w') : Code.wp Tryd.prog (.seq af14 (.seq af15 af16)) Q a w := by
  by_cases h0 : s = 0
  · have HE := hide (hend h0)
    clear hend hgo hS TC hr hl X x3
    subst h0
    obtain ⟨k0, k1, h1, k2, k3, k7, k8, k9, k10, k11, k12, k13, k14, k15, k16, k17⟩ := hA
    obtain ⟨u, hu, ha⟩ := lay393 a k0 k1
    rw [hu] at h1 h19 h20 k2 k3 k7 k8 k9 k10 k11 k12 k13 k14 k15 k16 k17
    rw [ha, h1, h19, h20]
    have K2 := hide k2
    have K3 := hide k3
    have K7 := hide k7
    have K8 := hide k8
    have K9 := hide k9
    have K10 := hide k10
    have K11 := hide k11
    have K12 := hide k12
    have K13 := hide k13
    have K14 := hide k14
    have K15 := hide k15
    have K16 := hide k16
    have K17 := hide k17
    clear ha hu k0 k1 h1 h19 h20 k2 k3 k7 k8 k9 k10 k11 k12 k13 k14 k15 k16 k17 
    refine wp_seq_k ?_
    intro K hK
    clear hK
    conv => arg 2; whnf
    go_wp2_with fail
    exact HE.out _ ⟨rfl, rfl, rfl, K2.out, K3.out, K7.out, K8.out, K9.out, K10.out, K11.out, K12.out, K13.out, K14.out, K15.out, K16.out, K17.out⟩
  · have hS := hS h0
    have hgo := hgo h0
    have HG := hide hgo
    have HTC := hide TC
    have HX := hide X
    have HR := hide hr
    have HS := hide hS
    have HTD := hide TD
    have HX3 := hide x3
    have e0 : (s == 0) = false := by rw [beq_eq_false_iff_ne]; exact h0
    clear hend hgo hS TC hr X TD x3 h0
    obtain ⟨k0, k1, h1, k2, k3, k7, k8, k9, k10, k11, k12, k13, k14, k15, k16, k17⟩ := hA
    obtain ⟨u, hu, ha⟩ := lay393 a k0 k1
    rw [hu] at h1 h19 h20 k2 k3 k7 k8 k9 k10 k11 k12 k13 k14 k15 k16 k17
    rw [ha, h1, h19, h20]
    have K2 := hide k2
    have K3 := hide k3
    have K7 := hide k7
    have K8 := hide k8
    have K9 := hide k9
    have K10 := hide k10
    have K11 := hide k11
    have K12 := hide k12
    have K13 := hide k13
    have K14 := hide k14
    have K15 := hide k15
    have K16 := hide k16
    have K17 := hide k17
    clear ha hu k0 k1 h1 h19 h20 k2 k3 k7 k8 k9 k10 k11 k12 k13 k14 k15 k16 k17 
    refine wp_seq_k ?_
    intro K hK
    have HK := hide hK
    clear hK
    conv => arg 2; whnf
    go_wp2_with fail
    refine HK.out _ _ ?_
    clear HK
    refine wp_seq_k ?_
    intro KK2 hK2
    have HK2 := hide hK2
    clear hK2
    conv => arg 2; whnf
    go_wp2_with fail
    refine HK2.out _ _ ?_
    clear HK2
    have X := HX.out
    have TD := HTD.out
    refine stage16 t TD { F with rest := .string ⟨r.toArray⟩ } ⟨X.nm, X.off, X.abs, X.days, X.date, X.yd, X.clk⟩ s _ rfl v _ ?hA rfl w Q ?_
    case hA => exact ⟨rfl, rfl, rfl, rfl, K3.out, K7.out, K8.out, K9.out, K10.out, K11.out, K12.out, K13.out, K14.out, K15.out, K16.out, K17.out⟩
    intro a1 w1 F1 q1 A1 i1 X1 p1 r1 d1
    refine stage18 t TD F1 X1 s _ rfl v a1 A1 i1 w1 Q ?_
    intro a2 w2 F2 q2 A2 i2 X2 p2 r2 y2 m2 dd2 d2
    refine stage20 t TD F2 X2 s _ rfl v a2 A2 i2 w2 Q ?_
    intro a3 w3 F3 q3 A3 i3 X3 p3 r3 y3 m3 dd3 yd3 d3
    have hq := (q1.trans q2).trans q3
    refine st_all t TD F3 X3 tb (p3.trans (p2.trans (p1.trans HX3.out))) ext q w3 (HTC.out.qt hq) (HR.out.below (hq.below _)) (by rw [hq.size]; exact hb) hl s HS.out
      (fun h => ⟨y3.trans (y2.trans (d1 h).1), m3.trans (m2.trans (d1 h).2.1), dd3.trans (dd2.trans (d1 h).2.2)⟩) (fun h => yd3.trans (d2 h)) d3 a3 A3 i3 Q ?_
    intro a' w' v' A' hr' hg'
    exact HG.out a' w' v' F3 A' X3 (r3.trans (r2.trans r1)) (p3.trans (p2.trans p1)) hr' ((Gr.of_below (hq.below _) v).trans hg')

def layLen : Value → Nat
  | .string b => b.size
  | _ => 0
theorem layLen_mk (l : List UInt8) : layLen (.string ⟨l.toArray⟩) = l.length := by simp [layLen, ByteArray.size]
def Rmu (a : Act) : Nat := layLen (a.tmps.getD 2 undef)
/-- what holds at the head of every round -/
def RI (lay l0 : List UInt8) (t : Fs.Tm) (w : World) (v0 : Value) (base tb : Nat) (a : Act) (w' : World) : Prop :=
  ∃ (v : Value) (F : Fr) (rest done : List UInt8), AF a v F ∧ FX t F ∧ F.rest = .string ⟨rest.toArray⟩ ∧ F.ptr = .pointer (some ⟨tb, 0, none⟩) ∧ Row w' base v (l0 ++ done) ∧ Gr w w' v0 v ∧ Fs.fmt t lay = done ++ Fs.fmt t rest ∧ done.length + 2000 * rest.length ≤ 2000 * lay.length
theorem fmt_nil (t : Fs.Tm) : Fs.fmt t [] = [] := Fs.fmt_end rfl

set_option maxRecDepth 100000 in
set_option maxHeartbeats 4000000 in
theorem af_round (lay l0 : List UInt8) (t : Fs.Tm) (TD : TmD t) (hlay : lay.length ≤ 10000000) (hl0 : l0.length ≤ 10000000000) (w : World) (v0 : Value) (base tb : Nat) (hb : base ≤ w.heap.size) (E : HStd w) (hg : v0.ownBlock ≠ some 3) (ext : Int) (q : Option Addr) (TC : TCell w tb t.nano ext (.pointer q)) (ht : v0.ownBlock ≠ some tb)
    (a : Act) (w1 : World) (HI : RI lay l0 t w v0 base tb a w1) (Q0 : Exit → Act → World → Prop) (HQ : ∀ a' w' v' F', AF a' v' F' → Row w' base v' (l0 ++ Fs.fmt t lay) → Gr w w' v0 v' → Q0 (.exit 0) a' w') :
    Code.wp Tryd.prog afBody (Exit.then (fun a' w' => RI lay l0 t w v0 base tb a' w' ∧ Rmu a' < Rmu a) Q0) a w1 := by
  obtain ⟨v, F, rest, done, hA, X, x2, x3, hr, hG, hF, hlen⟩ := HI
  have hmu : Rmu a = rest.length := by unfold Rmu; rw [hA.s2, x2, layLen_mk]
  rw [hmu, afBody_eq]
  clear hmu
  by_cases h0 : rest = []
  · subst h0
    have hF2 : Fs.fmt t lay = done := by rw [hF, fmt_nil, List.append_nil]
    have HQ2 := hide (fun a' F' (h : AF a' v F') => HQ a' w1 v F' h (by rw [hF2]; exact hr) hG)
    clear HQ hF2 hF hr hG X x3 TC hlen
    refine wp_seq_k ?_
    intro K hK
    clear hK
    obtain ⟨k0, k1, h1, k2, k3, k7, k8, k9, k10, k11, k12, k13, k14, k15, k16, k17⟩ := hA
    obtain ⟨u, hu, ha⟩ := lay393 a k0 k1
    rw [hu] at h1 k2 k3 k7 k8 k9 k10 k11 k12 k13 k14 k15 k16 k17
    have g2 := k2.trans x2
    rw [ha, h1, g2]
    have K2 := hide k2
    have K3 := hide k3
    have K7 := hide k7
    have K8 := hide k8
    have K9 := hide k9
    have K10 := hide k10
    have K11 := hide k11
    have K12 := hide k12
    have K13 := hide k13
    have K14 := hide k14
    have K15 := hide k15
    have K16 := hide k16
    have K17 := hide k17
    have G2 := hide g2
    clear ha hu k0 k1 h1  k2 k3 k7 k8 k9 k10 k11 k12 k13 k14 k15 k16 k17 g2
    clear x2
    conv => arg 2; whnf
    go_wp2_with fail
    exact HQ2.out _ F ⟨rfl, rfl, rfl, G2.out.symm.trans K2.out, K3.out, K7.out, K8.out, K9.out, K10.out, K11.out, K12.out, K13.out, K14.out, K15.out, K16.out, K17.out⟩
  · have e1 : (rest == []) = false := by rw [beq_eq_false_iff_ne]; exact h0
    have e2 : (rest != []) = true := by simpa using h0
    have e3 : rest.isEmpty = false := by simpa using h0
    have E1 := E.gr hG hg
    have TC1 := TC.gr hG ht
    have hs1 := hG.grown.size
    obtain ⟨⟨p, s, r⟩, hn⟩ : ∃ x, Fs.next rest = x := ⟨_, rfl⟩
    have hbd := Fs.next_bounds rest
    have hst := Fs.next_std rest
    have hend := Fs.fmt_end (t := t) (l := rest)
    have hon := Fs.fmt_on (t := t) (l := rest)
    have hnext := fun w E => next_any rest (by omega) w E
    rw [hn] at hbd hst hend hon hnext
    simp only [] at hbd hst hend hon
    have HNX := hide hnext
    clear hnext
    have HH : Hid (∀ v2 w2 a2, Row w2 base v2 (l0 ++ done ++ p) → Gr w1 w2 v v2 → AF a2 v2 F → a2.tmps.getD 19 undef = .int .i64 s → a2.tmps.getD 20 undef = .string ⟨r.toArray⟩ →
        Code.wp Tryd.prog (.seq af14 (.seq af15 af16)) (Exit.inBlock 1 (Exit.then (fun a' w' => RI lay l0 t w v0 base tb a' w' ∧ Rmu a' < rest.length) Q0)) a2 w2) := by
      show ∀ v2 w2 a2, _
      intro v2 w2 a2 hr2 hG2 A2 i19 i20
      have hG' := hG.trans hG2
      refine af_rest t TD F X tb x3 ext q w2 (TC.gr hG' ht) hr2 (Nat.le_trans hb hG'.grown.size) ?_ s r (fun h => (hst h).1) a2 A2 i19 i20 _ ?_ ?_
      · simp only [List.length_append]; omega
      · intro hs0 a' hA'
        exact HQ a' w2 v2 F hA' (by rw [hF, hend hs0, ← List.append_assoc]; exact hr2) hG'
      · intro hs0 a' w' v' F' A' X' r' p' hr' hg'
        have hle := Fs.elem_le TD.ok s
        refine ⟨⟨v', F', r, done ++ p ++ Fs.elem t s, A', X', r', p'.trans x3, ?_, hG'.trans hg', ?_, ?_⟩, ?_⟩
        · rw [← List.append_assoc, ← List.append_assoc]; exact hr'
        · rw [hF, hon hs0]; simp only [List.append_assoc]
        · have h1 := (hst hs0).2
          simp only [List.length_append]
          omega
        · have h1 := (hst hs0).2
          unfold Rmu
          rw [A'.s2, r', layLen_mk]
          exact h1
    have HR := hide hr
    have hsl : (l0 ++ done).length ≤ 70368744170000 := by simp only [List.length_append]; omega
    have hsl2 : l0.length + done.length ≤ 70368744170000 := by omega
    have hpl : p.length ≤ 10000000 := by omega
    have hs1b : base ≤ w1.heap.size := Nat.le_trans hb hs1
    clear HQ TC hG hF hst hend hon hr X x3 TD hlen hs1 h0
    refine wp_seq_k ?_
    intro K hK
    have HK := hide hK
    clear hK
    obtain ⟨k0, k1, h1, k2, k3, k7, k8, k9, k10, k11, k12, k13, k14, k15, k16, k17⟩ := hA
    obtain ⟨u, hu, ha⟩ := lay393 a k0 k1
    rw [hu] at h1 k2 k3 k7 k8 k9 k10 k11 k12 k13 k14 k15 k16 k17
    have g2 := k2.trans x2
    rw [ha, h1, g2]
    have K2 := hide k2
    have K3 := hide k3
    have K7 := hide k7
    have K8 := hide k8
    have K9 := hide k9
    have K10 := hide k10
    have K11 := hide k11
    have K12 := hide k12
    have K13 := hide k13
    have K14 := hide k14
    have K15 := hide k15
    have K16 := hide k16
    have K17 := hide k17
    have G2 := hide g2
    clear ha hu k0 k1 h1  k2 k3 k7 k8 k9 k10 k11 k12 k13 k14 k15 k16 k17 g2
    clear x2
    conv => arg 2; whnf
    go_wp2_with fail
    refine HK.out _ _ ?_
    clear HK
    refine wp_block ?_
    refine wp_seq_k ?_
    intro K1 hK1
    have HK1 := hide hK1
    clear hK1
    conv => arg 2; whnf
    go_wp2_with fail
    refine (HNX.out _ E1).mono ?_
    rintro e w2 ⟨rfl, hq⟩
    unfold nextV
    have HR2 := hide (HR.out.below (hq.below _))
    have g2 : Gr w1 w2 v v := Gr.of_below (hq.below _) v
    have hs2 : base ≤ w2.heap.size := by rw [hq.size]; exact hs1b
    clear HR hq hs1b E1 TC1
    go_wp2_with fail
    refine HK1.out _ _ ?_
    clear HK1
    refine wp_seq_k ?_
    intro KK2 hK2
    have HK2 := hide hK2
    clear hK2
    by_cases hp : p = []
    · subst hp
      conv => arg 2; whnf
      go_wp2_with fail
      refine HK2.out _ _ (HH.out v w2 _ ?_ g2 ⟨rfl, rfl, rfl, G2.out.symm.trans K2.out, K3.out, K7.out, K8.out, K9.out, K10.out, K11.out, K12.out, K13.out, K14.out, K15.out, K16.out, K17.out⟩ rfl rfl)
      rw [List.append_nil]; exact HR2.out
    · have p1 : (p == []) = false := by rw [beq_eq_false_iff_ne]; exact hp
      have p2 : (p != []) = true := by simpa using hp
      have p3 : p.isEmpty = false := by simpa using hp
      obtain ⟨i0, hi, hz0, hz1, hz2⟩ := info_parts info_u8
      have hr2 := HR2.out
      clear hp
      conv => arg 2; whnf
      go_wp2_with (at_builtin; refine wpList_append_gr_str _ rfl (.tmp 47) (.tmp 48) 47 9 rfl 5 i0 (.int .u8 0) Tryd.underlying47 Tryd.underlying9 hi hz0 hz1 hz2 rfl rfl hr2 hs2 (p) rfl (by first | (simp; omega) | omega) ?_; intro v3 w3 hr3 hg3)
      go_wp2_with fail
      exact HK2.out _ _ (HH.out v3 w3 _ hr3 (g2.trans hg3) ⟨rfl, rfl, rfl, G2.out.symm.trans K2.out, K3.out, K7.out, K8.out, K9.out, K10.out, K11.out, K12.out, K13.out, K14.out, K15.out, K16.out, K17.out⟩ rfl rfl)
end Go.Proofs.YtgcjhakhepgjlaaDoor

/-
  WALKS, times, part u: appendFormat is the plain format 'Fs.fmt'.
-/
namespace Go.Proofs.YtgcjhakhepgjlaaDoor
open Go.RowKit
set_option linter.unusedVariables false
set_option linter.unusedSimpArgs false
attribute [local go_sem] ByteArray.extract_mk get_mk ByteArray.toList_mk ByteArray.mk_append_mk take_drop_len

/-- a time as the plain format takes it -/
def tmOf (Y M D Hh Mi S Ns : Nat) (name : List UInt8) (off : Int) : Fs.Tm := ⟨Y, M, D, Fs.yearDay (Y : Int) M D, Fs.wday (Y : Int) M D, Hh, Mi, S, Ns, name, off⟩
theorem CivF.tmd {name : List UInt8} {off : Int} {Y M D Hh Mi S Ns : Nat} (CF : CivF Y M D Hh Mi S Ns name off Y M D Hh Mi S Ns) : TmD (tmOf Y M D Hh Mi S Ns name off) := by
  have hy := Fs.yearDay_le CF.date
  have hw : Fs.wday (Y : Int) M D ≤ 6 := by unfold Fs.wday; omega
  have ho := CF.o3
  have o1 := CF.o1
  have o2 := CF.o2
  have n1 := CF.n1
  refine ⟨⟨CF.y9, CF.date.m1, CF.date.m2, CF.date.d31, hy.2, hw, CF.clock.h1, CF.clock.mi1, CF.clock.s1, CF.clock.ns1, ?_, ?_, ?_, ?_⟩, CF.date, CF.clock, rfl, rfl, CF.n0⟩
  · show name.length ≤ 1000; omega
  · show -100000 ≤ off; omega
  · show off ≤ 100000; omega
  · show off = 0 ∨ 60 ≤ off ∨ off ≤ -60; omega

set_option maxRecDepth 100000 in
set_option maxHeartbeats 4000000 in
theorem appendFormat_told {t : Fs.Tm} (TD : TmD t) (lay l0 : List UInt8) (hlay : lay.length ≤ 10000000) (hl0 : l0.length ≤ 10000000000) (tv v0 : Value) (base : Nat) (w : World) (E : HStd w) (HT : Told w tv t.year t.month t.day t.hour t.min t.sec t.nano t.name t.off) (hr : Row w base v0 l0) (hb : base ≤ w.heap.size)
    (hg : v0.ownBlock ≠ some 3) (hv : ∀ g, v0.ownBlock = some g → g < w.heap.size) :
    Calls Tryd.prog 77 #[tv, v0, .string ⟨lay.toArray⟩] w fun e w' => ∃ v', e = .returned v' ∧ Row w' base v' (l0 ++ Fs.fmt t lay) ∧ Gr w w' v0 v' := by
  obtain ⟨⟨lv, rfl, hTL⟩, hd, hc, o1, o2⟩ := HT
  obtain ⟨q, rfl⟩ := hTL.ptr
  unfold timeV
  obtain ⟨ext, hext⟩ : ∃ ext, ext = Fs.isecs (t.year : Int) t.month t.day t.hour t.min t.sec - t.off := ⟨_, rfl⟩
  have hb1 : Below w.heap.size w (w.alloc (.cells #[.int .u64 (t.nano : Nat), .int .i64 ext, .pointer q] 41)) := (Below.refl _ _).alloc (Nat.le_refl _) _
  have HT1 : Told (w.alloc (.cells #[.int .u64 (t.nano : Nat), .int .i64 ext, .pointer q] 41)) (timeV t.nano ext (.pointer q)) t.year t.month t.day t.hour t.min t.sec t.nano t.name t.off :=
    ⟨⟨.pointer q, by rw [hext], hTL.below hb1⟩, hd, hc, o1, o2⟩
  have hlc := locabs_told HT1
  have TC := TCell.new w t.nano ext (.pointer q) 41
  have hday := fun w => absN_day hd hc w
  have E1 := E.below hb1
  have htb : v0.ownBlock ≠ some w.heap.size := fun e => absurd (hv _ e) (by omega)
  have hr1 := hr.below hb1
  have hbb := hb1.size
  unfold timeV at hlc
  rw [← hext]
  clear HT1 hTL hr E
  have HLC := hide hlc
  have HTC := hide TC
  have HDY := hide hday
  have HB1 := hide hb1
  have HR := hide hr1
  have HTD := hide TD
  have HE1 := hide E1
  clear hlc TC hday hb1 hr1 TD hext hd hc E1
  go_enter Tryd.func77, Tryd.ntmps77
  go_wp2_with fail
  refine HLC.out.mono ?_
  rintro e w2 ⟨rfl, hb2⟩
  have HB2 := hide (HB1.out.trans (hb2.mono hbb))
  have HTC2 := hide (HTC.out.below hb2)
  have HR2 := hide (HR.out.below hb2)
  have HE2 := hide (HE1.out.below hb2)
  clear HB1 HTC HR HE1 hb2 HLC
  go_wp2_with fail
  refine (HDY.out _).mono ?_
  rintro e w3 ⟨rfl, hq⟩
  have HB3 := hide (HB2.out.trans (hq.below _))
  have HTC3 := hide (HTC2.out.qt hq)
  have HR3 := hide (HR2.out.below (hq.below _))
  have HE3 := hide (HE2.out.qt hq)
  clear HB2 HTC2 HR2 HE2 hq HDY
  have hG3 : Gr w w3 v0 v0 := Gr.of_below HB3.out v0
  have hb3 : base ≤ w3.heap.size := Nat.le_trans hb HB3.out.size
  go_wp2_with fail
  refine wp_loop (RI lay l0 t w3 v0 base w.heap.size) (fun a _ => Rmu a) ?start ?round
  case start =>
    exact ⟨v0, ⟨.string ⟨lay.toArray⟩, .pointer (some ⟨w.heap.size, 0, none⟩), .string ⟨t.name.toArray⟩, .int .i64 t.off, .int .u64 (absN t.year t.month t.day t.hour t.min t.sec), .int .u64 (Fs.absDays t.year t.month t.day), .int .i64 (-1), .int .i64 0, .int .i64 0, .int .i64 (-1), .int .i64 (-1), .int .i64 0, .int .i64 0⟩, lay, [],
      ⟨rfl, rfl, rfl, rfl, rfl, rfl, rfl, rfl, rfl, rfl, rfl, rfl, rfl, rfl, rfl, rfl⟩, ⟨rfl, rfl, rfl, rfl, .inl rfl, .inl rfl, .inl rfl⟩, rfl, rfl, by rw [List.append_nil]; exact HR3.out, Gr.refl _ _, rfl, by simp⟩
  case round =>
    intro a w4 HI
    refine af_round lay l0 t HTD.out hlay hl0 w3 v0 base w.heap.size hb3 HE3.out hg ext q HTC3.out htb a w4 HI _ ?_
    intro a' w5 v' F' A' hr' hg'
    obtain ⟨k0, k1, h1, -⟩ := A'
    obtain ⟨u, hu, ha⟩ := lay393 a' k0 k1
    rw [hu] at h1
    rw [ha, h1]
    have HG5 := hide (hG3.trans hg')
    have HR5 := hide hr'
    clear ha hu k0 k1 h1 HI hr' hg' hG3 HTC3 HR3 HE3 HTD HB3
    go_wp2_with fail
    go_ret
    exact ⟨v', rfl, HR5.out, HG5.out⟩
end Go.Proofs.YtgcjhakhepgjlaaDoor
