/-
  WALKS, the strict road, part c: ParseStrict, the thin package's Strict.
-/
import Derived.Test.YtgcjhakhepgjlaaDoorRb
import Derived.Test.YtgcjhakhepgjlaaDoorQb
namespace Go.Proofs.YtgcjhakhepgjlaaDoor
open Go.RowKit
set_option linter.unusedVariables false
set_option linter.unusedSimpArgs false
attribute [local go_sem] ByteArray.extract_mk get_mk ByteArray.toList_mk ByteArray.mk_append_mk take_drop_len

/-- the text L is refused by the road of its own -/
def PNo (L : List UInt8) : Prop := ∀ (g : Nat) (w : World), UtcLoc w g → Calls Tryd.prog 26 #[.string ⟨L.toArray⟩, .pointer (some ⟨g, 0, none⟩)] w fun e w' => e = .returned (.tuple #[timeZ, .bool false]) ∧ Below w.heap.size w w'
/-- the text L is read as this time, over UTC -/
def POk (L : List UInt8) (y : Int) (m d h mi s : Nat) : Prop := ∀ (g : Nat) (w : World), UtcLoc w g → Calls Tryd.prog 26 #[.string ⟨L.toArray⟩, .pointer (some ⟨g, 0, none⟩)] w fun e w' => (∃ v, e = .returned (.tuple #[v, .bool true]) ∧ Told w' v y m d h mi s 0 utcB 0) ∧ Below w.heap.size w w'

set_option maxRecDepth 100000 in
set_option maxHeartbeats 1000000 in
theorem ParseStrict_no {L : List UInt8} (hP : PNo L) (w : World) : Calls Tryd.prog 16 #[.string ⟨L.toArray⟩] w fun e w' => e = .returned (.tuple #[timeZ, .bool false]) ∧ Below w.heap.size w w' := by
  have HP := hide hP
  have hb1 : Below w.heap.size w (w.alloc (.cells #[.int .u64 0, .int .i64 0, .pointer none] 41)) := (Below.refl _ _).alloc (Nat.le_refl _) _
  have TC := TCell.new w 0 0 (.pointer none) 41
  have f0 : (w.alloc (.cells #[.int .u64 0, .int .i64 0, .pointer none] 41)).frozen? ⟨w.heap.size, 0, none⟩ = false := by go_simp
  have f1 : (w.alloc (.cells #[.int .u64 0, .int .i64 0, .pointer none] 41)).frozen? ⟨w.heap.size, 1, none⟩ = false := by go_simp
  have f2 : (w.alloc (.cells #[.int .u64 0, .int .i64 0, .pointer none] 41)).frozen? ⟨w.heap.size, 2, none⟩ = false := by go_simp
  have HB1 := hide hb1
  have HTC := hide TC
  have HF := hide (And.intro f0 (And.intro f1 f2))
  clear hP hb1 TC f0 f1 f2
  go_enter Tryd.func16, Tryd.ntmps16
  go_wp2_with fail
  refine (UTC_any _).mono ?_
  rintro e w1 ⟨rfl, hU, hq⟩
  have HU := hide (utc_at (w.heap.size + 1) hU (by simp))
  have HB2 := hide (HB1.out.trans (hq.mono HB1.out.size))
  have HTC2 := hide (HTC.out.below hq)
  have HF2 := hide (And.intro ((hq.frozen (cell_lt HTC.out.c0)).trans HF.out.1) (And.intro ((hq.frozen (cell_lt HTC.out.c1)).trans HF.out.2.1) ((hq.frozen (cell_lt HTC.out.c2)).trans HF.out.2.2)))
  clear hU hq HB1 HTC HF
  go_wp2_with fail
  refine (HP.out _ _ HU.out).mono ?_
  rintro e w2 ⟨rfl, hq⟩
  have HB3 := hide (HB2.out.trans (hq.mono HB2.out.size))
  obtain ⟨c0, c1, c2⟩ := HTC2.out.below hq
  have f0 := (hq.frozen (cell_lt HTC2.out.c0)).trans HF2.out.1
  have f1 := (hq.frozen (cell_lt HTC2.out.c1)).trans HF2.out.2.1
  have f2 := (hq.frozen (cell_lt HTC2.out.c2)).trans HF2.out.2.2
  clear hq HU HP HB2 HTC2 HF2
  unfold timeZ
  go_wp2_with fail
  refine bodyPost_ret (v := .tuple #[timeZ, .bool false]) ?_ rfl ?_
  · simp [results, Tryd.results16, go_sem, timeZ, c0, c1, c2]
  · exact ⟨rfl, ((HB3.out.setCell (Nat.le_refl _) _).setCell (Nat.le_refl _) _).setCell (Nat.le_refl _) _⟩

set_option maxRecDepth 100000 in
set_option maxHeartbeats 1000000 in
theorem ParseStrict_ok {L : List UInt8} {y : Int} {m d h mi s : Nat} (hP : POk L y m d h mi s) (w : World) : Calls Tryd.prog 16 #[.string ⟨L.toArray⟩] w fun e w' => (∃ v, e = .returned (.tuple #[v, .bool true]) ∧ Told w' v y m d h mi s 0 utcB 0) ∧ Below w.heap.size w w' := by
  have HP := hide hP
  have hb1 : Below w.heap.size w (w.alloc (.cells #[.int .u64 0, .int .i64 0, .pointer none] 41)) := (Below.refl _ _).alloc (Nat.le_refl _) _
  have TC := TCell.new w 0 0 (.pointer none) 41
  have f0 : (w.alloc (.cells #[.int .u64 0, .int .i64 0, .pointer none] 41)).frozen? ⟨w.heap.size, 0, none⟩ = false := by go_simp
  have f1 : (w.alloc (.cells #[.int .u64 0, .int .i64 0, .pointer none] 41)).frozen? ⟨w.heap.size, 1, none⟩ = false := by go_simp
  have f2 : (w.alloc (.cells #[.int .u64 0, .int .i64 0, .pointer none] 41)).frozen? ⟨w.heap.size, 2, none⟩ = false := by go_simp
  have HB1 := hide hb1
  have HTC := hide TC
  have HF := hide (And.intro f0 (And.intro f1 f2))
  clear hP hb1 TC f0 f1 f2
  go_enter Tryd.func16, Tryd.ntmps16
  go_wp2_with fail
  refine (UTC_any _).mono ?_
  rintro e w1 ⟨rfl, hU, hq⟩
  have HU := hide (utc_at (w.heap.size + 1) hU (by simp))
  have HB2 := hide (HB1.out.trans (hq.mono HB1.out.size))
  have HTC2 := hide (HTC.out.below hq)
  have HF2 := hide (And.intro ((hq.frozen (cell_lt HTC.out.c0)).trans HF.out.1) (And.intro ((hq.frozen (cell_lt HTC.out.c1)).trans HF.out.2.1) ((hq.frozen (cell_lt HTC.out.c2)).trans HF.out.2.2)))
  clear hU hq HB1 HTC HF
  go_wp2_with fail
  refine (HP.out _ _ HU.out).mono ?_
  rintro e w2 ⟨⟨v, rfl, hT⟩, hq⟩
  obtain ⟨⟨lv, rfl, hTL⟩, hd, hc, o1, o2⟩ := hT
  obtain ⟨q, rfl⟩ := hTL.ptr
  have HB3 := hide (HB2.out.trans (hq.mono HB2.out.size))
  obtain ⟨c0, c1, c2⟩ := HTC2.out.below hq
  have f0 := (hq.frozen (cell_lt HTC2.out.c0)).trans HF2.out.1
  have f1 := (hq.frozen (cell_lt HTC2.out.c1)).trans HF2.out.2.1
  have f2 := (hq.frozen (cell_lt HTC2.out.c2)).trans HF2.out.2.2
  obtain ⟨X, hX⟩ : ∃ X, X = Fs.isecs y m d h mi s - 0 := ⟨_, rfl⟩
  rw [← hX]
  have HX := hide hX
  have e0 : (w2.setCell ⟨w.heap.size, 0, none⟩ (.int .u64 0)).cell? ⟨w.heap.size, 0, none⟩ = some (.int .u64 0) := by go_simp
  have e1 : ((w2.setCell ⟨w.heap.size, 0, none⟩ (.int .u64 0)).setCell ⟨w.heap.size, 1, none⟩ (.int .i64 X)).cell? ⟨w.heap.size, 0, none⟩ = some (.int .u64 0) := by go_simp
  have HTL := hide (((hTL.set (i := 0) c0 (.int .u64 0)).set (i := 1) e0 (.int .i64 X)).set (i := 2) e1 (.pointer q))
  have HD := hide hd
  have HC := hide hc
  clear hq HU HP HB2 HTC2 HF2 hTL hd hc o1 o2 hX e0 e1
  unfold timeV
  go_wp2_with fail
  refine bodyPost_ret (v := .tuple #[timeV 0 X (.pointer q), .bool true]) ?_ rfl ?_
  · simp [results, Tryd.results16, go_sem, timeV, c0, c1, c2]
  · exact ⟨⟨_, rfl, ⟨⟨_, by rw [HX.out], HTL.out⟩, HD.out, HC.out, by omega, by omega⟩⟩, ((HB3.out.setCell (Nat.le_refl _) _).setCell (Nat.le_refl _) _).setCell (Nat.le_refl _) _⟩

def parsedV (y m d h mi s ns : Int) (name : List UInt8) (off : Int) (ok : Bool) : Value := .agg #[.int .i64 y, .int .i64 m, .int .i64 d, .int .i64 h, .int .i64 mi, .int .i64 s, .int .i64 ns, .string ⟨name.toArray⟩, .int .i64 off, .bool ok]
structure RCell (w : World) (b : Nat) (y m d h mi s ns : Int) (name : List UInt8) (off : Int) (ok : Bool) : Prop where
  o : OCell w b y m d h mi s ns name off
  c9 : w.cell? ⟨b, 9, none⟩ = some (.bool ok)
  f9 : w.frozen? ⟨b, 9, none⟩ = false
theorem RCell.below {w w' : World} {b : Nat} {y m d h mi s ns : Int} {name : List UInt8} {off : Int} {ok : Bool} (H : RCell w b y m d h mi s ns name off ok) (hb : Below w.heap.size w w') : RCell w' b y m d h mi s ns name off ok :=
  ⟨H.o.below hb, Below.cellk hb H.c9, (hb.frozen (cell_lt H.c9)).trans H.f9⟩
theorem RCell.new (w : World) (y m d h mi s ns : Int) (name : List UInt8) (off : Int) (ok : Bool) (t : TypeId) : RCell (w.alloc (.cells #[.int .i64 y, .int .i64 m, .int .i64 d, .int .i64 h, .int .i64 mi, .int .i64 s, .int .i64 ns, .string ⟨name.toArray⟩, .int .i64 off, .bool ok] t)) w.heap.size y m d h mi s ns name off ok := by
  refine ⟨?_, ?_, ?_⟩
  · constructor <;> go_simp
  · go_simp
  · go_simp

set_option maxRecDepth 100000 in
set_option maxHeartbeats 2000000 in
theorem Strict_no {L : List UInt8} (hP : PNo L) (w : World) : Calls Tryd.prog 8 #[.string ⟨L.toArray⟩] w fun e w' => e = .returned (parsedV 0 0 0 0 0 0 0 [] 0 false) ∧ Below w.heap.size w w' := by
  have C1 := hide (fun w => ParseStrict_no hP w)
  have RC := RCell.new w 0 0 0 0 0 0 0 [] 0 false 29
  have hb1 : Below w.heap.size w (w.alloc (.cells #[.int .i64 0, .int .i64 0, .int .i64 0, .int .i64 0, .int .i64 0, .int .i64 0, .int .i64 0, .string ⟨#[]⟩, .int .i64 0, .bool false] 29)) := (Below.refl _ _).alloc (Nat.le_refl _) _
  have HR := hide RC
  have HB := hide hb1
  clear RC hb1 hP
  go_enter Tryd.func8, Tryd.ntmps8
  go_wp2_with fail
  refine (C1.out _).mono ?_
  rintro e w1 ⟨rfl, hq⟩
  have ba : Below w1.heap.size w1 (w1.alloc (.cells #[.int .u64 0, .int .i64 0, .pointer none] 41)) := (Below.refl _ _).alloc (Nat.le_refl _) _
  have HB1 := hide (HB.out.trans (hq.mono HB.out.size))
  have HB2 := hide (HB1.out.trans (ba.mono HB1.out.size))
  have hR := (HR.out.below hq).below ba
  obtain ⟨⟨o0, o1, o2, o3, o4, o5, o6, o7, o8, f0, f1, f2, f3, f4, f5, f6, f7, f8⟩, o9, f9⟩ := hR
  clear hq HR HB C1 ba HB1
  unfold timeZ
  go_wp2_with fail
  refine bodyPost_ret (v := parsedV 0 0 0 0 0 0 0 [] 0 false) ?_ rfl ?_
  · simp [results, Tryd.results8, go_sem, parsedV, o0, o1, o2, o3, o4, o5, o6, o7, o8, o9]
  · exact ⟨rfl, ((((((((((HB2.out.setCell (Nat.le_refl _) _).setCell (Nat.le_refl _) _).setCell (Nat.le_refl _) _).setCell (Nat.le_refl _) _).setCell (Nat.le_refl _) _).setCell (Nat.le_refl _) _).setCell (Nat.le_refl _) _).setCell (Nat.le_refl _) _).setCell (Nat.le_refl _) _).setCell (Nat.le_refl _) _)⟩

set_option maxRecDepth 100000 in
set_option maxHeartbeats 2000000 in
theorem Strict_ok {L : List UInt8} {y : Int} {m d h mi s : Nat} (hP : POk L y m d h mi s) (w : World) : Calls Tryd.prog 8 #[.string ⟨L.toArray⟩] w fun e w' => e = .returned (parsedV y m d h mi s 0 utcB 0 true) ∧ Below w.heap.size w w' := by
  have C1 := hide (fun w => ParseStrict_ok hP w)
  have RC := RCell.new w 0 0 0 0 0 0 0 [] 0 false 29
  have hb1 : Below w.heap.size w (w.alloc (.cells #[.int .i64 0, .int .i64 0, .int .i64 0, .int .i64 0, .int .i64 0, .int .i64 0, .int .i64 0, .string ⟨#[]⟩, .int .i64 0, .bool false] 29)) := (Below.refl _ _).alloc (Nat.le_refl _) _
  have HR := hide RC
  have HB := hide hb1
  clear RC hb1 hP
  go_enter Tryd.func8, Tryd.ntmps8
  go_wp2_with fail
  refine (C1.out _).mono ?_
  rintro e w1 ⟨⟨v, rfl, hT⟩, hq⟩
  have HT := hide hT
  obtain ⟨⟨lv, rfl, hTL⟩, -, -, -, -⟩ := hT
  obtain ⟨q, rfl⟩ := hTL.ptr
  unfold timeV at *
  obtain ⟨X, hX⟩ : ∃ X, X = Fs.isecs y m d h mi s - 0 := ⟨_, rfl⟩
  rw [← hX] at HT ⊢
  have HB1 := hide (HB.out.trans (hq.mono HB.out.size))
  have hR := HR.out.below hq
  have hlt : w.heap.size < w1.heap.size := cell_lt hR.c9
  have ba : Below w1.heap.size w1 (w1.alloc (.cells #[.int .u64 0, .int .i64 X, .pointer q] 41)) := (Below.refl _ _).alloc (Nat.le_refl _) _
  have HR2 := hide (hR.below ba)
  have HB2 := hide (HB1.out.trans (ba.mono HB1.out.size))
  have C2 := hide (civil_told (HT.out.below ba))
  clear hq HR HB C1 hTL hX hR ba HB1 HT
  go_wp2_with fail
  refine C2.out.mono ?_
  rintro e w2 ⟨rfl, hq⟩
  have HB3 := hide (HB2.out.trans (hq.mono HB2.out.size))
  have hR := HR2.out.below hq
  obtain ⟨⟨o0, o1, o2, o3, o4, o5, o6, o7, o8, f0, f1, f2, f3, f4, f5, f6, f7, f8⟩, o9, f9⟩ := hR
  clear hq HR2 HB2 C2 hlt
  unfold civilV
  go_wp2_with fail
  refine bodyPost_ret (v := parsedV y m d h mi s 0 utcB 0 true) ?_ rfl ?_
  · simp [results, Tryd.results8, go_sem, parsedV, o0, o1, o2, o3, o4, o5, o6, o7, o8, o9]
  · exact ⟨rfl, ((((((((((HB3.out.setCell (Nat.le_refl _) _).setCell (Nat.le_refl _) _).setCell (Nat.le_refl _) _).setCell (Nat.le_refl _) _).setCell (Nat.le_refl _) _).setCell (Nat.le_refl _) _).setCell (Nat.le_refl _) _).setCell (Nat.le_refl _) _).setCell (Nat.le_refl _) _).setCell (Nat.le_refl _) _)⟩
end Go.Proofs.YtgcjhakhepgjlaaDoor
