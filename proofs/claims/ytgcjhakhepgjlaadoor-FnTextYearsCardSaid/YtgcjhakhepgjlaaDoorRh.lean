/-
  WALKS, the strict road, part h: of a time in a year of other than four digits no text is made (printed by wip/py/gen_years.py).
-/
import Derived.Test.YtgcjhakhepgjlaaDoorRe
import Derived.Test.YtgcjhakhepgjlaaDoorRg
namespace Go.Proofs.YtgcjhakhepgjlaaDoor
open Go.RowKit
set_option linter.unusedVariables false
set_option linter.unusedSimpArgs false
attribute [local go_sem] ByteArray.extract_mk get_mk ByteArray.toList_mk ByteArray.mk_append_mk take_drop_len

set_option maxRecDepth 100000 in
theorem at_raw {y : Int} {m d h mi s ns : Nat} (y1 : -200000000 ≤ y) (y2 : y ≤ 200000000) (m1 : 1 ≤ m) (m2 : m ≤ 12) (d1 : 1 ≤ d) (d2 : d ≤ 31) (hc : Fs.VClock h mi s ns) {name : List UInt8} {off : Int} (o1 : -100000 ≤ off) (o2 : off ≤ 100000) (w : World) :
    Calls Tryd.prog 21 #[civilV y m d h mi s ns name off] w fun e w' => ∃ lv, e = .returned (timeV ns (Fs.isecs y m d h mi s - off) lv) ∧ TL w' lv name off ∧ Below w.heap.size w w' := by
  unfold civilV
  go_enter Tryd.func21, Tryd.ntmps21
  go_wp2_with fail
  have hsz : w.heap.size + 2 = ((w.alloc (.cells #[.int .i64 y, .int .i64 m, .int .i64 d, .int .i64 h, .int .i64 mi, .int .i64 s, .int .i64 ns, .string ⟨name.toArray⟩, .int .i64 off] 27)).alloc (.cells #[.int .u64 0, .int .i64 0, .pointer none] 41)).heap.size := by simp
  have hB : Below w.heap.size w ((w.alloc (.cells #[.int .i64 y, .int .i64 m, .int .i64 d, .int .i64 h, .int .i64 mi, .int .i64 s, .int .i64 ns, .string ⟨name.toArray⟩, .int .i64 off] 27)).alloc (.cells #[.int .u64 0, .int .i64 0, .pointer none] 41)) := ((Below.refl _ _).alloc (Nat.le_refl _) _).alloc (by simp) _
  have HC := hide (atS_new w y m d h mi s ns off ⟨name.toArray⟩)
  generalize ((w.alloc (.cells #[.int .i64 y, .int .i64 m, .int .i64 d, .int .i64 h, .int .i64 mi, .int .i64 s, .int .i64 ns, .string ⟨name.toArray⟩, .int .i64 off] 27)).alloc (.cells #[.int .u64 0, .int .i64 0, .pointer none] 41)) = W at hsz hB HC ⊢
  have hlt : w.heap.size + 1 < W.heap.size := by omega
  clear hsz
  have HB := hide hB
  clear hB
  generalize hH : w.heap.size = H at *
  have HH := hide hH
  clear hH
  obtain ⟨c0, c1, c2, c3, c4, c5, c6, c7, c8, t0, t1, t2, f0, f1, f2⟩ := HC.out
  clear HC
  have T0 := hide t0
  have T1 := hide t1
  have T2 := hide t2
  have F0 := hide f0
  have F1 := hide f1
  have F2 := hide f2
  clear t0 t1 t2 f0 f1 f2
  go_region_held3 (fun w' => w'.cell? ⟨H, 0, none⟩ = some (.int .i64 y) ∧ w'.cell? ⟨H, 1, none⟩ = some (.int .i64 m) ∧ w'.cell? ⟨H, 2, none⟩ = some (.int .i64 d) ∧ w'.cell? ⟨H, 3, none⟩ = some (.int .i64 h) ∧ w'.cell? ⟨H, 4, none⟩ = some (.int .i64 mi) ∧
      w'.cell? ⟨H, 5, none⟩ = some (.int .i64 s) ∧ w'.cell? ⟨H, 6, none⟩ = some (.int .i64 ns) ∧ w'.cell? ⟨H, 7, none⟩ = some (.string ⟨name.toArray⟩) ∧ w'.cell? ⟨H, 8, none⟩ = some (.int .i64 off))
    (first | go_keep | (go_split_ands; exact ⟨HK.out _ _ ‹_›, HK.out _ _ ‹_›, HK.out _ _ ‹_›, HK.out _ _ ‹_›, HK.out _ _ ‹_›, HK.out _ _ ‹_›, HK.out _ _ ‹_›, HK.out _ _ ‹_›, HK.out _ _ ‹_›⟩))
    (first
      | (go_at_call 34; refine (place_any name off _).mono ?_; rintro e w1 ⟨lv, rfl, hP, hb⟩; have HP := hide hP; have HK := keepC hb; have HF := keepF hb; have HB1 := hide hb; clear hP hb)
      | (go_at_call 33; refine (Date_any y1 y2 m1 m2 d1 d2 hc o1 o2 _ HP.out).mono ?_; rintro e w2 ⟨lv', rfl, hT, hb⟩; (obtain ⟨q, rfl⟩ := hT.ptr); unfold timeV; have HK2 := keepC hb
         have t0 := HK2.out _ _ (HK.out _ _ T0.out)
         have t1 := HK2.out _ _ (HK.out _ _ T1.out)
         have t2 := HK2.out _ _ (HK.out _ _ T2.out)
         have f0 := (keepF hb).out _ _ (HK.out _ _ T0.out) (HF.out _ _ T0.out F0.out)
         have f1 := (keepF hb).out _ _ (HK.out _ _ T1.out) (HF.out _ _ T1.out F1.out)
         have f2 := (keepF hb).out _ _ (HK.out _ _ T2.out) (HF.out _ _ T2.out F2.out)
         have HT := hide hT; have HKX := HK; clear HK; have HK := HK2; have HB2 := hide hb; clear hT hb))
  go_wp2_with fail
  have e0 : (w2.setCell ⟨H + 1, 0, none⟩ (.int .u64 (ns : Int))).cell? ⟨H + 1, 0, none⟩ = some (.int .u64 (ns : Int)) := by go_simp
  have e1 : ((w2.setCell ⟨H + 1, 0, none⟩ (.int .u64 (ns : Int))).setCell ⟨H + 1, 1, none⟩ (.int .i64 (Fs.isecs y m d h mi s - off))).cell? ⟨H + 1, 0, none⟩ = some (.int .u64 (ns : Int)) := by go_simp
  have hTT := ((HT.out.set (i := 0) t0 (.int .u64 (ns : Int))).set (i := 1) e0 (.int .i64 (Fs.isecs y m d h mi s - off))).set (i := 2) e1 (.pointer q)
  have b0 := HB.out
  have hB1 := HB1.out
  have hB2 := HB2.out
  have s1 := hB1.size
  have b1 := hB1.mono (B' := H) (by simp at s1 ⊢; omega)
  have b2 := (b0.drew.trans b1).trans (hB2.mono (B' := H) (by simp at s1 ⊢; omega))
  refine bodyPost_ret (v := timeV ns (Fs.isecs y m d h mi s - off) (.pointer q)) (by simp [results, Tryd.results21, go_sem, timeV, t0, t1, t2]) rfl ⟨_, rfl, hTT, ?_⟩
  rw [HH.out]
  exact ((b2.setCell (by simp) _).setCell (by simp) _).setCell (by simp) _

theorem leap_q1 {K : Nat} (h1 : 0 < K) (h2 : ¬ K % 4 = 0) : 1461 * (K - 1) / 4 + 365 = 1461 * K / 4 := by
  obtain ⟨a, b, rfl, hb⟩ : ∃ a b, K = 4 * a + b + 1 ∧ b < 3 := ⟨K / 4, K % 4 - 1, by omega, by omega⟩
  have : b = 0 ∨ b = 1 ∨ b = 2 := by omega
  clear h1 h2 hb
  rcases this with rfl | rfl | rfl <;> omega
theorem leap_q2 {C : Nat} (h1 : 0 < C) (h2 : ¬ C % 4 = 0) : 146097 * (C - 1) / 4 + 36524 = 146097 * C / 4 := by
  obtain ⟨a, b, rfl, hb⟩ : ∃ a b, C = 4 * a + b + 1 ∧ b < 3 := ⟨C / 4, C % 4 - 1, by omega, by omega⟩
  have : b = 0 ∨ b = 1 ∨ b = 2 := by omega
  clear h1 h2 hb
  rcases this with rfl | rfl | rfl <;> omega
theorem leap_y {y : Int} {Y : Nat} (hY : (Y : Int) = y + 292277022400) (h : ¬ (y % 4 = 0 ∧ (y % 100 ≠ 0 ∨ y % 400 = 0))) : ¬ (Y % 4 = 0 ∧ (Y % 100 ≠ 0 ∨ Y % 400 = 0)) := by
  have e1 : (Y % 4 = 0) ↔ y % 4 = 0 := by omega
  have e2 : (Y % 100 = 0) ↔ y % 100 = 0 := by omega
  have e3 : (Y % 400 = 0) ↔ y % 400 = 0 := by omega
  rw [e1, e3]
  intro h3
  apply h
  refine ⟨h3.1, ?_⟩
  rcases h3.2 with h4 | h4
  · exact .inl (fun h5 => h4 (e2.2 h5))
  · exact .inr h4
/-- February 29 of a year without it is March 1 -/
theorem leap_day {y : Int} (y1 : -200000000 ≤ y) (y2 : y ≤ 200000000) (hl : Fs.leap y = false) : Fs.absDays y 2 29 = Fs.absDays y 3 1 := by
  have hl2 : ¬ (y % 4 = 0 ∧ (y % 100 ≠ 0 ∨ y % 400 = 0)) := fun h => by rw [(Fs.leap_iff y).2 h] at hl; exact absurd hl (by decide)
  obtain ⟨Y, hY⟩ : ∃ Y : Nat, (Y : Int) = y + 292277022400 := ⟨(y + 292277022400).toNat, by omega⟩
  have e2 : Fs.aYear y 2 = Y - 1 := by unfold Fs.aYear Fs.jf; rw [if_pos (by omega)]; omega
  have e3 : Fs.aYear y 3 = Y := by unfold Fs.aYear Fs.jf; rw [if_neg (by omega)]; omega
  have a2 : Fs.aDay 2 29 = 365 := by simp [Fs.aDay, Fs.jf]
  have a3 : Fs.aDay 3 1 = 0 := by simp [Fs.aDay, Fs.jf]
  have hY4 := leap_y hY hl2
  have hY0 : 1000 ≤ Y := by omega
  unfold Fs.absDays
  rw [e2, e3, a2, a3]
  clear hl2 hY e2 e3 a2 a3 hl y1 y2
  by_cases h0 : Y % 100 = 0
  · have c1 : (Y - 1) / 100 = Y / 100 - 1 := by omega
    have c2 : (Y - 1) % 100 = 99 := by omega
    have c5 : ¬ (Y / 100) % 4 = 0 := by omega
    have c6 := leap_q2 (C := Y / 100) (by omega) c5
    rw [c1, c2, h0, ← c6]
  · have c1 : (Y - 1) / 100 = Y / 100 := by omega
    have c2 : (Y - 1) % 100 = Y % 100 - 1 := by omega
    have c5 : ¬ (Y % 100) % 4 = 0 := by omega
    have c6 := leap_q1 (K := Y % 100) (by omega) c5
    rw [c1, c2, ← c6, Nat.add_zero]
theorem norm_day {y y0 : Int} {M D : Nat} (y1 : -200000000 ≤ y) (y2 : y ≤ 200000000) (hv : Fs.Valid y0 M D) : ∃ M' D', Fs.Valid y M' D' ∧ ∀ h mi s, Fs.isecs y M' D' h mi s = Fs.isecs y M D h mi s := by
  by_cases hd : D ≤ Fs.monthLen y M
  · exact ⟨M, D, ⟨hv.m1, hv.m2, hv.d1, hd, y1, y2⟩, fun _ _ _ => rfl⟩
  · have h2 := hv.d2
    have hM : M = 2 := by
      rcases Nat.decEq M 2 with h | h
      · unfold Fs.monthLen at hd h2
        rw [if_neg h] at hd h2
        exact absurd h2 hd
      · exact h
    subst hM
    have hl : Fs.leap y = false := by
      rw [Bool.eq_false_iff]
      intro hl
      unfold Fs.monthLen at hd h2
      rw [if_pos rfl, if_pos hl] at hd
      rw [if_pos rfl] at h2
      split at h2 <;> omega
    have hD : D = 29 := by
      unfold Fs.monthLen at hd h2
      rw [if_pos rfl, hl] at hd
      rw [if_pos rfl] at h2
      simp only [if_false, Bool.false_eq_true] at hd
      split at h2 <;> omega
    subst hD
    refine ⟨3, 1, ⟨by omega, by omega, by omega, by simp [Fs.monthLen], y1, y2⟩, fun h mi s => ?_⟩
    unfold Fs.isecs
    rw [leap_day y1 y2 hl]

/-- a time of which no text by RFC 3339 is made -/
def TextNo (w : World) (tv : Value) : Prop := ∀ (w' : World) (v0 : Value) (l0 : List UInt8) (base : Nat), Below w.heap.size w w' → l0.length ≤ 100 → Row w' base v0 l0 → base ≤ w'.heap.size → (∀ g, v0.ownBlock = some g → g < w'.heap.size) →
  Calls Tryd.prog 36 #[tv, v0] w' fun e w'' => ∃ v' a s L, e = .returned (.tuple #[v', .iface 100 (.pointer (some a))]) ∧ w''.cell? a = some (.string ⟨s⟩) ∧ s.size ≤ 100 ∧ v'.ownBlock ≠ some a.block ∧ Row w'' base v' L ∧ L.length ≤ 10000 ∧ Gr w' w'' v0 v'
theorem TextNo.below {w w1 : World} {tv : Value} (h : TextNo w tv) (hb : Below w.heap.size w w1) : TextNo w1 tv :=
  fun w' v0 l0 base h1 => h w' v0 l0 base (hb.trans (h1.mono hb.size))
theorem textNo_of {y : Int} (hy : -100000000 ≤ y ∧ y ≤ 100000000) (hy2 : y < 0 ∨ 9999 < y) {y0 : Int} {M D Hh Mi S Ns : Nat} (hv : Fs.Valid y0 M D) (hc : Fs.VClock Hh Mi S Ns) {name : List UInt8} {off : Int} (n1 : name.length ≤ 100) (o1 : -86399 ≤ off) (o2 : off ≤ 86399) (o3 : off = 0 ∨ off ≤ -60 ∨ 60 ≤ off)
    {w : World} {lv : Value} (hT : TL w lv name off) : TextNo w (timeV Ns (Fs.isecs y M D Hh Mi S - off) lv) := by
  obtain ⟨M', D', hv', hs⟩ := norm_day (y := y) (by omega) (by omega) hv
  rw [← hs]
  obtain ⟨q, rfl⟩ := hT.ptr
  intro w' v0 l0 base hb hl hr hbase hvv
  have hTold : Told w (timeV Ns (Fs.isecs y M' D' Hh Mi S - off) (.pointer q)) y M' D' Hh Mi S Ns name off := ⟨⟨_, rfl, hT⟩, hv', hc, by omega, by omega⟩
  obtain ⟨t, ht⟩ : ∃ t : Fs.Tm, t = ⟨0, M', D', 0, 0, Hh, Mi, S, Ns, name, off⟩ := ⟨_, rfl⟩
  have TO : TmOk t := by
    rw [ht]
    exact ⟨Nat.zero_le _, hv'.m1, hv'.m2, hv'.d31, Nat.zero_le _, Nat.zero_le _, hc.h1, hc.mi1, hc.s1, hc.ns1, by show name.length ≤ 1000; omega, by show -100000 ≤ off; omega, by show off ≤ 100000; omega, by show off = 0 ∨ 60 ≤ off ∨ off ≤ -60; omega⟩
  have hTt : Told w (timeV Ns (Fs.isecs y M' D' Hh Mi S - off) (.pointer q)) y t.month t.day t.hour t.min t.sec t.nano t.name t.off := by rw [ht]; exact hTold
  obtain ⟨T, hTT⟩ : ∃ T, T = [45] ++ Fs.dg 2 t.month ++ [45] ++ Fs.dg 2 t.day ++ [84] ++ Fs.dg 2 t.hour ++ [58] ++ Fs.dg 2 t.min ++ [58] ++ Fs.dg 2 t.sec ++ Fs.nanoT (589859 % 65536 == 35) (589859 / 65536 % 4096) 46 t.nano ++ (if t.off = 0 then [90] else [if t.off < 0 then 45 else 43] ++ Fs.dg 2 (t.off.natAbs / 60 / 60) ++ [58] ++ Fs.dg 2 (t.off.natAbs / 60 % 60)) := ⟨_, rfl⟩
  have HA := fun w'' (hb' : Below w'.heap.size w' w'') => appendRFY TO y hy l0 (by omega) _ v0 base w'' ((hTt.below hb).below hb') (hr.below hb') (Nat.le_trans hbase hb'.size) (fun g e => Nat.lt_of_lt_of_le (hvv g e) hb'.size) T hTT
  have hTl : T.length ≤ 3000 := by
    obtain ⟨yy, m1, m2, dd, yd, wd, hh, mm, ss, nn, nl, p1, p2, p3⟩ := TO
    have km : (Fs.dg 2 t.month).length ≤ 9 := Fs.dg_le (by omega) (by omega)
    have kd : (Fs.dg 2 t.day).length ≤ 9 := Fs.dg_le (by omega) (by omega)
    have kh : (Fs.dg 2 t.hour).length ≤ 9 := Fs.dg_le (by omega) (by omega)
    have kn : (Fs.dg 2 t.min).length ≤ 9 := Fs.dg_le (by omega) (by omega)
    have ks : (Fs.dg 2 t.sec).length ≤ 9 := Fs.dg_le (by omega) (by omega)
    have kf : (Fs.nanoT (589859 % 65536 == 35) (589859 / 65536 % 4096) 46 t.nano).length ≤ 1000 := Fs.nanoT_le nn
    have k1 : (Fs.dg 2 (t.off.natAbs / 60 / 60)).length ≤ 9 := Fs.dg_le (by omega) (by omega)
    have k2 : (Fs.dg 2 (t.off.natAbs / 60 % 60)).length ≤ 9 := Fs.dg_le (by omega) (by omega)
    have ko : (if t.off = 0 then [90] else [if t.off < 0 then 45 else 43] ++ Fs.dg 2 (t.off.natAbs / 60 / 60) ++ [58] ++ Fs.dg 2 (t.off.natAbs / 60 % 60)).length ≤ 1000 := Fs.ite_len (by simp) (by simp; omega)
    rw [hTT]
    simp only [List.length_append, List.length_cons, List.length_nil] at *
    omega
  have hyl := yearText_le hy
  obtain ⟨c, hc4, hne⟩ := yearText_at hy2
  have h4 : 4 < (yearText y).length := by
    rcases Nat.lt_or_ge 4 (yearText y).length with h | h
    · exact h
    · rw [List.getElem?_eq_none h] at hc4; cases hc4
  have hL : (l0 ++ (yearText y ++ T)).length ≤ 10000 := by simp only [List.length_append]; omega
  refine (asr_y (yearText y ++ T) l0 (by omega) (by rw [List.length_append]; omega) _ _ _ v0 base w' hr HA c hne ?_).mono ?_
  · rw [List.getElem?_append_right (by omega), List.getElem?_append_left (by omega), show l0.length + 4 - l0.length = 4 by omega]
    exact hc4
  · rintro e w2 ⟨v', a, s, he, hcl, hs2, hne2, hrow, hg⟩
    exact ⟨v', a, s, _, he, hcl, hs2, hne2, hrow, hL, hg⟩
end Go.Proofs.YtgcjhakhepgjlaaDoor
