/-
  WALKS, the strict road, part i: MarshalText, MarshalJSON, TextOf, JSONOf of a time of which no text is made.
-/
import Derived.Test.YtgcjhakhepgjlaaDoorRh
import Derived.Deep.RegionHeld3
import Derived.Handy
namespace Go.Proofs.YtgcjhakhepgjlaaDoor
open Go.RowKit
set_option linter.unusedVariables false
set_option linter.unusedSimpArgs false
attribute [local go_sem] ByteArray.extract_mk get_mk ByteArray.toList_mk ByteArray.mk_append_mk take_drop_len

set_option maxRecDepth 100000 in
theorem appendTo_no {w : World} {ns : Nat} {ext : Int} {q : Option Addr} (hT : TextNo w (.agg #[.int .u64 ns, .int .i64 ext, .pointer q])) (v0 : Value) (l0 : List UInt8) (base : Nat) (hl : l0.length ≤ 100) (hr : Row w base v0 l0) (hb : base ≤ w.heap.size) (hv : ∀ g, v0.ownBlock = some g → g < w.heap.size) (p : List UInt8) (hp : p.length ≤ 100) :
    Calls Tryd.prog 35 #[.agg #[.int .u64 ns, .int .i64 ext, .pointer q], v0, .string ⟨p.toArray⟩] w fun e w' => ∃ v' b, e = .returned (.tuple #[.slice none 0 0, .iface 100 (.pointer (some b))]) ∧ Gr w w' v0 v' := by
  have hb1 : Below w.heap.size w (w.alloc (.cells #[.int .u64 ns, .int .i64 ext, .pointer q] 41)) := (Below.refl _ _).alloc (Nat.le_refl _) _
  have TC := TCell.new w ns ext (.pointer q) 41
  have HC := hide (hT _ v0 l0 base hb1 hl (hr.below hb1) (Nat.le_trans hb hb1.size) (fun g e => Nat.lt_of_lt_of_le (hv g e) hb1.size))
  have HB := hide hb1
  obtain ⟨c0, c1, c2⟩ := TC
  clear hT hb1 hv hr
  go_enter Tryd.func35, Tryd.ntmps35
  go_wp2_with fail
  refine HC.out.mono ?_
  rintro e w1 ⟨v', a, ⟨s⟩, L, rfl, hcl, hs, -, hr', hL, hg⟩
  have HG := hide ((Gr.of_below HB.out _).trans hg)
  clear hr' hg HC HB c0 c1 c2
  have hs2 : s.length ≤ 100 := hs
  have h2 : p.length + s.length ≤ 9223372036854775807 := by omega
  clear hs
  go_wp2_with fail
  all_goals
    refine (errStr_any s a _ hcl).mono ?_
    rintro e w2 ⟨rfl, hq⟩
    have HG2 := hide (HG.out.then_below (hq.below _))
    clear hq HG hcl
    go_wp2_with fail
    refine (errNew_any _ _).mono ?_
    rintro e w3 ⟨rfl, hcl3, hq⟩
    have HG3 := hide (HG2.out.then_below hq)
    clear hq HG2 hcl3
    go_wp2_with fail
    refine bodyPost_ret (v := .tuple #[.slice none 0 0, .iface 100 (.pointer (some ⟨w2.heap.size, 0, none⟩))]) ?_ rfl ?_
    · simp [results, Tryd.results35, go_sem]
    · exact ⟨_, _, rfl, HG3.out⟩

set_option maxRecDepth 100000 in
theorem MarshalText_no {w : World} {ns : Nat} {ext : Int} {q : Option Addr} (hT : TextNo w (.agg #[.int .u64 ns, .int .i64 ext, .pointer q])) :
    Calls Tryd.prog 22 #[.agg #[.int .u64 ns, .int .i64 ext, .pointer q]] w fun e w' => ∃ b, e = .returned (.tuple #[.slice none 0 0, .iface 100 (.pointer (some b))]) ∧ Below w.heap.size w w' := by
  have hb1 : Below w.heap.size w (w.alloc (.cells #[.int .u64 ns, .int .i64 ext, .pointer q] 41)) := (Below.refl _ _).alloc (Nat.le_refl _) _
  have TC := TCell.new w ns ext (.pointer q) 41
  obtain ⟨c0, c1, c2⟩ := TC
  have hfin : ∀ (W : World) (Z : Array Value) (ty : TypeId), Below w.heap.size w W → w.heap.size < W.heap.size → Z.size = 35 → Calls Tryd.prog 35 #[.agg #[.int .u64 ns, .int .i64 ext, .pointer q], .slice (some ⟨W.heap.size, 0, none⟩) 0 35, .string ⟨[84, 105, 109, 101, 46, 77, 97, 114, 115, 104, 97, 108, 84, 101, 120, 116, 58, 32].toArray⟩] (W.alloc (.cells Z ty)).drew fun e w' => ∃ b, e = .returned (.tuple #[.slice none 0 0, .iface 100 (.pointer (some b))]) ∧ Below w.heap.size w w' ∧ ∀ j v, (W.alloc (.cells Z ty)).drew.cell? ⟨w.heap.size, j, none⟩ = some v → w'.cell? ⟨w.heap.size, j, none⟩ = some v := by
    intro W Z ty hW hlt hZ
    have hb2 : Below w.heap.size w (W.alloc (.cells Z ty)).drew := (hW.alloc hW.size _).drew
    have hr := (row_blank W Z ty 35 hZ (by simp [maxLen])).drew
    refine (appendTo_no (hT.below hb2) _ [] W.heap.size (by simp) hr (by simp) (by intro g e; obtain rfl : W.heap.size = g := Option.some.inj e; simp) _ (by simp)).mono ?_
    rintro e w' ⟨v', b, rfl, hg⟩
    exact ⟨b, rfl, hb2.trans (hg.below (by simp; omega) (fun g e => by obtain rfl : W.heap.size = g := Option.some.inj e; omega)), fun j v hc => hg.cell hc (fun e => by have : W.heap.size = w.heap.size := Option.some.inj e; omega)⟩
  obtain ⟨Z, hZ, hmk⟩ := make_row (w.alloc (.cells #[.int .u64 ns, .int .i64 ext, .pointer q] 41)).drew 35 (by omega)
  have hs : (w.alloc (.cells #[.int .u64 ns, .int .i64 ext, .pointer q] 41)).drew.heap.size = w.heap.size + 1 := by simp
  rw [hs] at hmk
  have hmk2 : (Instr.makeSlice 47 (.int .i64 0) (.int .i64 35)).run Tryd.prog (w.alloc (.cells #[.int .u64 ns, .int .i64 ext, .pointer q] 41)).drew = .ok (.slice (some ⟨w.heap.size + 1, 0, none⟩) 0 35) ((w.alloc (.cells #[.int .u64 ns, .int .i64 ext, .pointer q] 41)).drew.alloc (.cells Z 5)) := hmk
  have hs2 : (w.alloc (.cells #[.int .u64 ns, .int .i64 ext, .pointer q] 41)).heap.size = w.heap.size + 1 := by simp
  have hF := hfin (w.alloc (.cells #[.int .u64 ns, .int .i64 ext, .pointer q] 41)) Z 5 hb1 (by rw [hs2]; omega) hZ
  rw [hs2] at hF
  have HF := hide hF
  clear hT hfin hb1 hmk hs hs2 hF
  go_enter Tryd.func22, Tryd.ntmps22
  go_wp2_with fail
  go_region_held3 (fun w' => w'.cell? ⟨w.heap.size, 0, none⟩ = some (.int .u64 (ns : Nat)) ∧ w'.cell? ⟨w.heap.size, 1, none⟩ = some (.int .i64 ext) ∧ w'.cell? ⟨w.heap.size, 2, none⟩ = some (.pointer q))
    (first | (go_split_ands; exact ⟨HK.out _ _ ‹_›, HK.out _ _ ‹_›, HK.out _ _ ‹_›⟩) | go_keep)
    (first | (go_at_call 35; refine HF.out.mono ?_; rintro e w1 ⟨b, rfl, hb, hk⟩; have HB := hide hb; have HK := hide hk; clear hb hk HF))
  go_wp2_with fail
  refine bodyPost_ret (v := .tuple #[.slice none 0 0, .iface 100 (.pointer (some b))]) ?_ rfl ?_
  · simp [results, Tryd.results22, go_sem]
  · exact ⟨_, rfl, HB.out⟩


set_option maxRecDepth 100000 in
set_option maxHeartbeats 2000000 in
theorem MarshalJSON_no {w : World} {ns : Nat} {ext : Int} {q : Option Addr} (hT : TextNo w (.agg #[.int .u64 ns, .int .i64 ext, .pointer q])) :
    Calls Tryd.prog 23 #[.agg #[.int .u64 ns, .int .i64 ext, .pointer q]] w fun e w' => ∃ b, e = .returned (.tuple #[.slice none 0 0, .iface 100 (.pointer (some b))]) ∧ Below w.heap.size w w' := by
  obtain ⟨i0, hi, hz0, hz1, hz2⟩ := info_parts info_u8
  obtain ⟨W, hW⟩ : ∃ W, W = (w.alloc (.cells #[.int .u64 ns, .int .i64 ext, .pointer q] 41)) := ⟨_, rfl⟩
  have hb1 : Below w.heap.size w W := by rw [hW]; exact (Below.refl _ _).alloc (Nat.le_refl _) _
  have hWs : W.heap.size = w.heap.size + 1 := by rw [hW]; simp
  have TC : TCell W w.heap.size ns ext (.pointer q) := by rw [hW]; exact TCell.new w ns ext (.pointer q) 41
  obtain ⟨Z, hZ, hmk⟩ := make_row W 37 (by omega)
  rw [hWs] at hmk
  have hmk2 : (Instr.makeSlice 47 (.int .i64 0) (.int .i64 37)).run Tryd.prog W = .ok (.slice (some ⟨w.heap.size + 1, 0, none⟩) 0 37) (W.alloc (.cells Z 5)) := hmk
  clear hmk
  have hr0 := row_blank W Z 5 37 hZ (by simp [maxLen])
  rw [hWs] at hr0
  have hb2 : Below w.heap.size w (W.alloc (.cells Z 5)) := hb1.alloc hb1.size _
  have hsz : (W.alloc (.cells Z 5)).heap.size = w.heap.size + 2 := by simp [hWs]
  have TC2 := TC.below ((Below.refl W.heap.size W).alloc (Nat.le_refl _) (.cells Z 5))
  have HB := hide hb2
  have HT := hide hT
  have HTC := hide TC2
  clear hb1 hb2 hT TC2 hZ
  subst hW
  obtain ⟨c0, c1, c2⟩ := TC
  go_enter Tryd.func23, Tryd.ntmps23
  have hnews := news_new ((w.alloc (.cells #[.int .u64 ns, .int .i64 ext, .pointer q] 41)).alloc (.cells Z 5)) #[.int .u8 34] 5 (0, 0) [34] (row1 rfl)
  rw [hsz] at hnews
  have hne : (Value.slice (some ⟨w.heap.size + 1, 0, none⟩) 0 37).ownBlock ≠ some w.heap.size := fun e => by have : w.heap.size + 1 = w.heap.size := Option.some.inj e; omega
  go_wp2_with (at_builtin; refine wpList_append_gr _ rfl (.tmp 7) (.tmp 8) 47 rfl 5 i0 (.int .u8 0) Tryd.underlying47 hi hz0 hz1 hz2 rfl rfl (hr0.alloc _) (by simp) ⟨w.heap.size + 2, 0, none⟩ 1 1 [34] rfl rfl hnews (by simp) ?_; intro v3 w3 hr3 hg3; have hT3 := (HTC.out.below ((Below.refl _ _).alloc (Nat.le_refl _) _)).gr hg3 hne; obtain ⟨d0, d1, d2⟩ := hT3)
  have b3 : Below w.heap.size w w3 := (HB.out.alloc (by simp; omega) _).trans (hg3.below (by simp; omega) (fun g e => by obtain rfl : w.heap.size + 1 = g := Option.some.inj e; omega))
  have s3 : w.heap.size + 1 ≤ w3.heap.size := by have := hg3.grown.size; simp at this; omega
  have hA := HT.out w3 v3 [34] (w.heap.size + 1) b3 (by simp) hr3 s3 (hr3.own_lt (by simp))
  have HA := hide hA
  have B3 := hide b3
  clear hA b3 hg3 hnews HTC HB HT hr0 hsz hWs
  refine HA.out.mono ?_
  rintro e w4 ⟨v4, a, ⟨s⟩, L, rfl, hcl, hs, hna, hr4, hL, hg4⟩
  have hs2 : s.length ≤ 100 := hs
  have b4 : Below w.heap.size w w4 := B3.out.trans ((hg4.row_below hr3 s3).mono (by omega))
  have s4 : w.heap.size + 1 ≤ w4.heap.size := Nat.le_trans s3 hg4.grown.size
  have B4 := hide b4
  clear HA B3 b4 hg4 hr3 s3 d0 d1 d2 hs
  have h2 : 18 + s.length ≤ 9223372036854775807 := by omega
  go_wp2_with (at_builtin; refine wpList_append_gr _ rfl (.tmp 16) (.tmp 17) 47 rfl 5 i0 (.int .u8 0) Tryd.underlying47 hi hz0 hz1 hz2 rfl rfl (hr4.alloc _) (by simp; omega) ⟨w4.heap.size, 0, none⟩ 1 1 [34] rfl rfl (news_new w4 _ _ _ _ (row1 rfl)) (by simp; omega) ?_; intro v5 w5 hr5 hg5; have B5 := hide ((B4.out.alloc B4.out.size (.cells #[.int .u8 34] 5)).trans ((hg5.row_below (hr4.alloc _) (by simp; omega)).mono (by omega))); have hc5 := hg5.cell (Below.cellk ((Below.refl w4.heap.size w4).alloc (Nat.le_refl _) (.cells #[.int .u8 34] 5)) hcl) hna; clear hg5 hr5)
  refine (errStr_any s a _ hc5).mono ?_
  rintro e w6 ⟨rfl, hq⟩
  have B6 := hide (B5.out.trans (hq.below _))
  clear hq B5 hc5
  go_wp2_with fail
  refine (errNew_any _ _).mono ?_
  rintro e w7 ⟨rfl, hcl7, hq⟩
  have B7 := hide (B6.out.trans (hq.mono B6.out.size))
  clear hq B6 hcl7
  go_wp2_with fail
  refine bodyPost_ret (v := .tuple #[.slice none 0 0, .iface 100 (.pointer (some ⟨w6.heap.size, 0, none⟩))]) ?_ rfl ?_
  · simp [results, Tryd.results23, go_sem]
  · exact ⟨_, rfl, B7.out⟩

theorem conv_nil (w : World) : (convert 47 9 (.slice none 0 0)).run Tryd.prog w = .ok (.string ⟨#[]⟩) w := by kernel_rfl
set_option maxRecDepth 100000 in
set_option maxHeartbeats 2000000 in
theorem TextOf_no {y : Int} (hy : -100000000 ≤ y ∧ y ≤ 100000000) (hy2 : y < 0 ∨ 9999 < y) {y0 : Int} {M D Hh Mi S Ns : Nat} (hv : Fs.Valid y0 M D) (hc : Fs.VClock Hh Mi S Ns) {name : List UInt8} {off : Int} (n1 : name.length ≤ 100) (o1 : -86399 ≤ off) (o2 : off ≤ 86399) (o3 : off = 0 ∨ off ≤ -60 ∨ 60 ≤ off) (w : World) :
    Calls Tryd.prog 12 #[civilV y (M : Int) (D : Int) (Hh : Int) (Mi : Int) (S : Int) (Ns : Int) name off] w fun e w' => e = .returned (.tuple #[.string ⟨#[]⟩, .bool false]) ∧ Below w.heap.size w w' := by
  have HAT := hide (fun w => at_raw (y := y) (m := M) (d := D) (by omega) (by omega) hv.m1 hv.m2 hv.d1 hv.d31 hc (name := name) (off := off) (by omega) (by omega) w)
  have HTN := hide (fun w lv (hT : TL w lv name off) => textNo_of hy hy2 hv hc n1 o1 o2 o3 hT)
  clear hv hc n1 o1 o2 o3 hy hy2
  have b0 := ((Below.refl w.heap.size w).alloc (Nat.le_refl _) (Obj.cells #[.int .i64 y, .int .i64 (M : Int), .int .i64 (D : Int), .int .i64 (Hh : Int), .int .i64 (Mi : Int), .int .i64 (S : Int), .int .i64 (Ns : Int), .string ⟨name.toArray⟩, .int .i64 off] 27))
  unfold civilV at *
  go_enter Tryd.func12, Tryd.ntmps12
  go_wp2_with fail
  refine (HAT.out _).mono ?_
  rintro e w1 ⟨lv, rfl, hT, hq⟩
  have B1 := hide (b0.trans (hq.mono (by simp)))
  have hTN := HTN.out _ _ hT
  obtain ⟨q, rfl⟩ := hT.ptr
  unfold timeV at *
  have HM := hide (MarshalText_no hTN)
  clear hT hq b0 HAT HTN hTN
  go_wp2_with fail
  refine HM.out.mono ?_
  rintro e w2 ⟨b, rfl, hq⟩
  have B2 := hide (B1.out.trans (hq.mono B1.out.size))
  clear hq B1 HM
  have hcv := conv_nil w2.drew
  go_wp2_with fail
  go_region_held3 (fun w' => w' = w2.drew) (exact rfl) (fail)
  go_wp2_with fail
  refine bodyPost_ret (v := .tuple #[.string ⟨#[]⟩, .bool false]) ?_ rfl ?_
  · simp [results, Tryd.results12, go_sem]
  · exact ⟨rfl, B2.out.drew⟩

set_option maxRecDepth 100000 in
set_option maxHeartbeats 2000000 in
theorem JSONOf_no {y : Int} (hy : -100000000 ≤ y ∧ y ≤ 100000000) (hy2 : y < 0 ∨ 9999 < y) {y0 : Int} {M D Hh Mi S Ns : Nat} (hv : Fs.Valid y0 M D) (hc : Fs.VClock Hh Mi S Ns) {name : List UInt8} {off : Int} (n1 : name.length ≤ 100) (o1 : -86399 ≤ off) (o2 : off ≤ 86399) (o3 : off = 0 ∨ off ≤ -60 ∨ 60 ≤ off) (w : World) :
    Calls Tryd.prog 13 #[civilV y (M : Int) (D : Int) (Hh : Int) (Mi : Int) (S : Int) (Ns : Int) name off] w fun e w' => e = .returned (.tuple #[.string ⟨#[]⟩, .bool false]) ∧ Below w.heap.size w w' := by
  have HAT := hide (fun w => at_raw (y := y) (m := M) (d := D) (by omega) (by omega) hv.m1 hv.m2 hv.d1 hv.d31 hc (name := name) (off := off) (by omega) (by omega) w)
  have HTN := hide (fun w lv (hT : TL w lv name off) => textNo_of hy hy2 hv hc n1 o1 o2 o3 hT)
  clear hv hc n1 o1 o2 o3 hy hy2
  have b0 := ((Below.refl w.heap.size w).alloc (Nat.le_refl _) (Obj.cells #[.int .i64 y, .int .i64 (M : Int), .int .i64 (D : Int), .int .i64 (Hh : Int), .int .i64 (Mi : Int), .int .i64 (S : Int), .int .i64 (Ns : Int), .string ⟨name.toArray⟩, .int .i64 off] 27))
  unfold civilV at *
  go_enter Tryd.func13, Tryd.ntmps13
  go_wp2_with fail
  refine (HAT.out _).mono ?_
  rintro e w1 ⟨lv, rfl, hT, hq⟩
  have B1 := hide (b0.trans (hq.mono (by simp)))
  have hTN := HTN.out _ _ hT
  obtain ⟨q, rfl⟩ := hT.ptr
  unfold timeV at *
  have HM := hide (MarshalJSON_no hTN)
  clear hT hq b0 HAT HTN hTN
  go_wp2_with fail
  refine HM.out.mono ?_
  rintro e w2 ⟨b, rfl, hq⟩
  have B2 := hide (B1.out.trans (hq.mono B1.out.size))
  clear hq B1 HM
  have hcv := conv_nil w2.drew
  go_wp2_with fail
  go_region_held3 (fun w' => w' = w2.drew) (exact rfl) (fail)
  go_wp2_with fail
  refine bodyPost_ret (v := .tuple #[.string ⟨#[]⟩, .bool false]) ?_ rfl ?_
  · simp [results, Tryd.results13, go_sem]
  · exact ⟨rfl, B2.out.drew⟩
end Go.Proofs.YtgcjhakhepgjlaaDoor
