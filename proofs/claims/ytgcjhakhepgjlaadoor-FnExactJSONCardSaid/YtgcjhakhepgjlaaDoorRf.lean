/-
  WALKS, the strict road, part f: the thin package's TextOf and JSONOf, of a time in a year of four digits.
-/
import Derived.Test.YtgcjhakhepgjlaaDoorRe
namespace Go.Proofs.YtgcjhakhepgjlaaDoor
open Go.RowKit
set_option linter.unusedVariables false
set_option linter.unusedSimpArgs false
attribute [local go_sem] ByteArray.extract_mk get_mk ByteArray.toList_mk ByteArray.mk_append_mk take_drop_len

theorem get_last1 {A : List UInt8} {x : UInt8} : (A ++ [x])[(A ++ [x]).length - 1]? = some x := by simp
theorem get_six {A : List UInt8} {a b c d e f : UInt8} : (A ++ [a, b, c, d, e, f])[(A ++ [a, b, c, d, e, f]).length - 1]? = some f ∧ (A ++ [a, b, c, d, e, f])[(A ++ [a, b, c, d, e, f]).length - 6]? = some a ∧ (A ++ [a, b, c, d, e, f])[(A ++ [a, b, c, d, e, f]).length - 5]? = some b ∧ (A ++ [a, b, c, d, e, f])[(A ++ [a, b, c, d, e, f]).length - 4]? = some c := by
  refine ⟨?_, ?_, ?_, ?_⟩
  · rw [List.getElem?_append_right (by simp)]; simp
  · rw [List.getElem?_append_right (by simp)]; simp
  · rw [List.getElem?_append_right (by simp)]; simp [show A.length + 6 - 5 - A.length = 1 by omega]
  · rw [List.getElem?_append_right (by simp)]; simp [show A.length + 6 - 4 - A.length = 2 by omega]
theorem dig_ne_Z {n : Nat} (h : n < 10) : UInt8.ofNat (48 + n) ≠ 90 := fun e => by
  have := congrArg UInt8.toNat e
  rw [UInt8.toNat_ofNat', show (90 : UInt8).toNat = 90 from rfl] at this
  omega
theorem rfc_len {t : Fs.Tm} (TD : TmD t) : (Fs.rfc t true).length ≤ 3000 := by
  obtain ⟨y1, m1, m2, dd, yd, wd, hh, mm, ss, nn, nl, p1, p2, p3⟩ := TD.ok
  have k4 : (Fs.dg 4 t.year).length ≤ 9 := Fs.dg_le (by omega) (by omega)
  have km : (Fs.dg 2 t.month).length ≤ 9 := Fs.dg_le (by omega) (by omega)
  have kd : (Fs.dg 2 t.day).length ≤ 9 := Fs.dg_le (by omega) (by omega)
  have kh : (Fs.dg 2 t.hour).length ≤ 9 := Fs.dg_le (by omega) (by omega)
  have kn : (Fs.dg 2 t.min).length ≤ 9 := Fs.dg_le (by omega) (by omega)
  have ks : (Fs.dg 2 t.sec).length ≤ 9 := Fs.dg_le (by omega) (by omega)
  have kf : (Fs.nanoT true 9 46 t.nano).length ≤ 1000 := Fs.nanoT_le nn
  have ko : (if t.off = 0 then [90] else Fs.offs t.off true false true).length ≤ 1000 := Fs.ite_len (by simp) (Fs.offs_le p1 p2)
  unfold Fs.rfc Fs.rfcD
  simp only [if_true, List.length_append, List.length_cons, List.length_nil] at *
  omega
/-- the fifth byte, and the rest in two pieces -/
theorem rfc_parts {t : Fs.Tm} (TD : TmD t) (l0 : List UInt8) : (l0 ++ Fs.rfc t true)[l0.length + 4]? = some 45 ∧ 6 < (Fs.rfc t true).length := by
  obtain ⟨y1, -⟩ := TD.ok
  have e : ∃ a b c d r, Fs.rfc t true = a :: b :: c :: d :: 45 :: r ∧ 2 ≤ r.length := by
    have hd : 2 ≤ (Fs.dg 2 t.month).length := by simp [Fs.dg, Fs.pad]; omega
    unfold Fs.rfc Fs.rfcD
    rw [Fs.dg_four (n := t.year) (by omega)]
    refine ⟨_, _, _, _, _, rfl, ?_⟩
    simp only [List.length_append, List.nil_append, List.append_eq, List.length_cons, List.length_nil]
    omega
  obtain ⟨a, b, c, d, r, e, hr⟩ := e
  rw [e]
  refine ⟨?_, by simp; omega⟩
  rw [List.getElem?_append_right (by omega)]
  simp
set_option maxHeartbeats 1000000 in
theorem textOK_told {t : Fs.Tm} (TD : TmD t) (q1 : -86399 ≤ t.off) (q2 : t.off ≤ 86399) {w : World} {tv : Value} (HT : Told w tv t.year t.month t.day t.hour t.min t.sec t.nano t.name t.off) :
    ∃ ns ext q, tv = .agg #[.int .u64 (ns : Nat), .int .i64 ext, .pointer q] ∧ TextOK w (.agg #[.int .u64 (ns : Nat), .int .i64 ext, .pointer q]) (Fs.rfc t true) := by
  have HT0 := HT
  obtain ⟨⟨lv, rfl, hTL⟩, -, -, -, -⟩ := HT
  obtain ⟨q, rfl⟩ := hTL.ptr
  refine ⟨_, _, q, rfl, ?_⟩
  unfold timeV at HT0
  intro w' v0 l0 base hb hl hr hbase hv
  have HA := fun w'' (hb' : Below w'.heap.size w' w'') => appendRFC_told TD true l0 (by omega) _ v0 base w'' ((HT0.below hb).below hb') (hr.below hb') (Nat.le_trans hbase hb'.size) (fun g e => Nat.lt_of_lt_of_le (hv g e) hb'.size)
  obtain ⟨p4, p6⟩ := rfc_parts TD l0
  have hlen := rfc_len TD
  have hll : (l0 ++ Fs.rfc t true).length ≤ 100000000000 := by rw [List.length_append]; omega
  by_cases h0 : t.off = 0
  · refine asr_z (Fs.rfc t true) l0 hll (by omega) _ _ _ v0 base w' hr HA p4 ?_
    unfold Fs.rfc
    rw [if_pos h0, ← List.append_assoc]
    exact get_last1
  · have hz : (if t.off = 0 then [90] else Fs.offs t.off true false true) = [if t.off < 0 then 45 else 43, UInt8.ofNat (48 + t.off.natAbs / 3600 / 10), UInt8.ofNat (48 + t.off.natAbs / 3600 % 10), 58, UInt8.ofNat (48 + t.off.natAbs / 60 % 60 / 10), UInt8.ofNat (48 + t.off.natAbs / 60 % 60 % 10)] := by
      rw [if_neg h0]
      unfold Fs.offs
      rw [Fs.dg_two (n := t.off.natAbs / 3600) (by omega), Fs.dg_two (n := t.off.natAbs / 60 % 60) (by omega)]
      split <;> simp
    have e : l0 ++ Fs.rfc t true = (l0 ++ (Fs.rfcD t ++ (if true = true then Fs.nanoT true 9 46 t.nano else []))) ++ [if t.off < 0 then 45 else 43, UInt8.ofNat (48 + t.off.natAbs / 3600 / 10), UInt8.ofNat (48 + t.off.natAbs / 3600 % 10), 58, UInt8.ofNat (48 + t.off.natAbs / 60 % 60 / 10), UInt8.ofNat (48 + t.off.natAbs / 60 % 60 % 10)] := by
      unfold Fs.rfc
      rw [hz]
      simp only [List.append_assoc]
    obtain ⟨g1, g6, g5, g4⟩ := get_six (A := l0 ++ (Fs.rfcD t ++ (if true = true then Fs.nanoT true 9 46 t.nano else []))) (a := if t.off < 0 then 45 else 43) (b := UInt8.ofNat (48 + t.off.natAbs / 3600 / 10)) (c := UInt8.ofNat (48 + t.off.natAbs / 3600 % 10)) (d := 58) (e := UInt8.ofNat (48 + t.off.natAbs / 60 % 60 / 10)) (f := UInt8.ofNat (48 + t.off.natAbs / 60 % 60 % 10))
    rw [← e] at g1 g6 g5 g4
    exact asr_o (Fs.rfc t true) l0 hll p6 _ _ _ v0 base w' hr HA p4 _ _ (dig_ne_Z (by omega)) (by split <;> decide) g1 g6 (t.off.natAbs / 3600 / 10) (t.off.natAbs / 3600 % 10) (by omega) (by omega) (by omega) g5 g4

set_option maxRecDepth 100000 in
set_option maxHeartbeats 2000000 in
theorem TextOf_ok {name : List UInt8} {off : Int} {Y M D Hh Mi S Ns : Nat} (CF : CivF Y M D Hh Mi S Ns name off Y M D Hh Mi S Ns) (w : World) :
    Calls Tryd.prog 12 #[civilV (Y : Int) (M : Int) (D : Int) (Hh : Int) (Mi : Int) (S : Int) (Ns : Int) name off] w fun e w' => e = .returned (.tuple #[.string ⟨(Fs.rfc (tmOf Y M D Hh Mi S Ns name off) true).toArray⟩, .bool true]) ∧ Below w.heap.size w w' := by
  have TD := CF.tmd
  have o1 := CF.o1
  have o2 := CF.o2
  have HTD := hide (fun w tv HT => textOK_told (w := w) (tv := tv) TD o1 o2 HT)
  have hat := fun w => at_any CF.date CF.clock (name := name) (off := off) (by omega) (by omega) w
  have HAT := hide hat
  have hRl := rfc_len TD
  generalize Fs.rfc (tmOf Y M D Hh Mi S Ns name off) true = R at *
  clear hat TD CF
  have b0 := ((Below.refl w.heap.size w).alloc (Nat.le_refl _) (Obj.cells #[.int .i64 (Y : Int), .int .i64 (M : Int), .int .i64 (D : Int), .int .i64 (Hh : Int), .int .i64 (Mi : Int), .int .i64 (S : Int), .int .i64 (Ns : Int), .string ⟨name.toArray⟩, .int .i64 off] 27))
  unfold civilV at *
  go_enter Tryd.func12, Tryd.ntmps12
  go_wp2_with fail
  refine (HAT.out _).mono ?_
  rintro e w1 ⟨v, rfl, hT, hq⟩
  have B1 := hide (b0.trans (hq.mono (by simp)))
  obtain ⟨ns, ext, q, rfl, hTO⟩ := HTD.out _ _ hT
  have HM := hide (MarshalText_ok hTO)
  clear hT hq b0 HAT HTD hTO
  go_wp2_with fail
  refine HM.out.mono ?_
  rintro e w2 ⟨v', rfl, ⟨g, o, cp, rfl, hra⟩, hq⟩
  have B2 := hide (B1.out.trans (hq.mono B1.out.size))
  have hcv := string_row (P := Tryd.prog) w2.drew 47 9 5 (hra.block (w' := w2.drew) rfl) Tryd.underlying47 Tryd.underlying5 Tryd.underlying9
  clear hq B1 HM hra
  go_wp2_with fail
  go_region_held3 (fun w' => w' = w2.drew) (exact rfl) (fail)
  go_wp2_with fail
  refine bodyPost_ret (v := .tuple #[.string ⟨(R).toArray⟩, .bool true]) ?_ rfl ?_
  · simp [results, Tryd.results12, go_sem]
  · exact ⟨rfl, B2.out.drew⟩

set_option maxRecDepth 100000 in
set_option maxHeartbeats 2000000 in
theorem JSONOf_ok {name : List UInt8} {off : Int} {Y M D Hh Mi S Ns : Nat} (CF : CivF Y M D Hh Mi S Ns name off Y M D Hh Mi S Ns) (w : World) :
    Calls Tryd.prog 13 #[civilV (Y : Int) (M : Int) (D : Int) (Hh : Int) (Mi : Int) (S : Int) (Ns : Int) name off] w fun e w' => e = .returned (.tuple #[.string ⟨([34] ++ Fs.rfc (tmOf Y M D Hh Mi S Ns name off) true ++ [34]).toArray⟩, .bool true]) ∧ Below w.heap.size w w' := by
  have TD := CF.tmd
  have o1 := CF.o1
  have o2 := CF.o2
  have HTD := hide (fun w tv HT => textOK_told (w := w) (tv := tv) TD o1 o2 HT)
  have hat := fun w => at_any CF.date CF.clock (name := name) (off := off) (by omega) (by omega) w
  have HAT := hide hat
  have hRl := rfc_len TD
  generalize Fs.rfc (tmOf Y M D Hh Mi S Ns name off) true = R at *
  obtain ⟨R2, hR2⟩ : ∃ r : List UInt8, r = [34] ++ R ++ [34] := ⟨_, rfl⟩
  rw [← hR2]
  have HR2 := hide hR2
  clear hat TD CF hR2
  have b0 := ((Below.refl w.heap.size w).alloc (Nat.le_refl _) (Obj.cells #[.int .i64 (Y : Int), .int .i64 (M : Int), .int .i64 (D : Int), .int .i64 (Hh : Int), .int .i64 (Mi : Int), .int .i64 (S : Int), .int .i64 (Ns : Int), .string ⟨name.toArray⟩, .int .i64 off] 27))
  unfold civilV at *
  go_enter Tryd.func13, Tryd.ntmps13
  go_wp2_with fail
  refine (HAT.out _).mono ?_
  rintro e w1 ⟨v, rfl, hT, hq⟩
  have B1 := hide (b0.trans (hq.mono (by simp)))
  obtain ⟨ns, ext, q, rfl, hTO⟩ := HTD.out _ _ hT
  have HM := hide (MarshalJSON_ok hTO (by omega))
  rw [← HR2.out] at HM
  clear HR2
  clear hT hq b0 HAT HTD hTO
  go_wp2_with fail
  refine HM.out.mono ?_
  rintro e w2 ⟨v', rfl, ⟨g, o, cp, rfl, hra⟩, hq⟩
  have B2 := hide (B1.out.trans (hq.mono B1.out.size))
  have hcv := string_row (P := Tryd.prog) w2.drew 47 9 5 (hra.block (w' := w2.drew) rfl) Tryd.underlying47 Tryd.underlying5 Tryd.underlying9
  clear hq B1 HM hra
  go_wp2_with fail
  go_region_held3 (fun w' => w' = w2.drew) (exact rfl) (fail)
  go_wp2_with fail
  refine bodyPost_ret (v := .tuple #[.string ⟨(R2).toArray⟩, .bool true]) ?_ rfl ?_
  · simp [results, Tryd.results13, go_sem]
  · exact ⟨rfl, B2.out.drew⟩
end Go.Proofs.YtgcjhakhepgjlaaDoor
