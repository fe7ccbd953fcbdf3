/-
  WALKS, the strict road, part e: MarshalText, MarshalJSON, the thin package's TextOf, JSONOf: where a text is made.
-/
import Derived.Test.YtgcjhakhepgjlaaDoorRd
import Derived.Deep.RegionHeld3
namespace Go.Proofs.YtgcjhakhepgjlaaDoor
open Go.RowKit
set_option linter.unusedVariables false
set_option linter.unusedSimpArgs false
attribute [local go_sem] ByteArray.extract_mk get_mk ByteArray.toList_mk ByteArray.mk_append_mk take_drop_len

/-- a time whose text by RFC 3339 is R -/
def TextOK (w : World) (tv : Value) (R : List UInt8) : Prop := ∀ (w' : World) (v0 : Value) (l0 : List UInt8) (base : Nat), Below w.heap.size w w' → l0.length ≤ 100 → Row w' base v0 l0 → base ≤ w'.heap.size → (∀ g, v0.ownBlock = some g → g < w'.heap.size) →
  Calls Tryd.prog 36 #[tv, v0] w' fun e w'' => ∃ v', e = .returned (.tuple #[v', .nilIface]) ∧ Row w'' base v' (l0 ++ R) ∧ Gr w' w'' v0 v'
theorem TextOK.below {w w1 : World} {tv : Value} {R : List UInt8} (h : TextOK w tv R) (hb : Below w.heap.size w w1) : TextOK w1 tv R :=
  fun w' v0 l0 base h1 => h w' v0 l0 base (hb.trans (h1.mono hb.size))

set_option maxRecDepth 100000 in
theorem appendTo_ok {w : World} {ns : Nat} {ext : Int} {q : Option Addr} {R : List UInt8} (hT : TextOK w (.agg #[.int .u64 ns, .int .i64 ext, .pointer q]) R) (v0 : Value) (l0 : List UInt8) (base : Nat) (hl : l0.length ≤ 100) (hr : Row w base v0 l0) (hb : base ≤ w.heap.size) (hv : ∀ g, v0.ownBlock = some g → g < w.heap.size) (s : ByteArray) :
    Calls Tryd.prog 35 #[.agg #[.int .u64 ns, .int .i64 ext, .pointer q], v0, .string s] w fun e w' => ∃ v', e = .returned (.tuple #[v', .nilIface]) ∧ Row w' base v' (l0 ++ R) ∧ Gr w w' v0 v' := by
  have hb1 : Below w.heap.size w (w.alloc (.cells #[.int .u64 ns, .int .i64 ext, .pointer q] 41)) := (Below.refl _ _).alloc (Nat.le_refl _) _
  have TC := TCell.new w ns ext (.pointer q) 41
  have HC := hide (hT _ v0 l0 base hb1 hl (hr.below hb1) (Nat.le_trans hb hb1.size) (fun g e => Nat.lt_of_lt_of_le (hv g e) hb1.size))
  have HB := hide hb1
  obtain ⟨c0, c1, c2⟩ := TC
  clear hT hb1 hv hr
  go_enter Tryd.func35, Tryd.ntmps35
  go_wp2_with fail
  refine HC.out.mono ?_
  rintro e w1 ⟨v', rfl, hr', hg⟩
  have HR := hide hr'
  have HG := hide ((Gr.of_below HB.out _).trans hg)
  clear hr' hg HC HB c0 c1 c2
  go_wp2_with fail
  refine bodyPost_ret (v := .tuple #[v', .nilIface]) ?_ rfl ?_
  · simp [results, Tryd.results35, go_sem]
  · exact ⟨_, rfl, HR.out, HG.out⟩

set_option maxRecDepth 100000 in
theorem MarshalText_ok {w : World} {ns : Nat} {ext : Int} {q : Option Addr} {R : List UInt8} (hT : TextOK w (.agg #[.int .u64 ns, .int .i64 ext, .pointer q]) R) :
    Calls Tryd.prog 22 #[.agg #[.int .u64 ns, .int .i64 ext, .pointer q]] w fun e w' => ∃ v', e = .returned (.tuple #[v', .nilIface]) ∧ Row w' w.heap.size v' R ∧ Below w.heap.size w w' := by
  have hb1 : Below w.heap.size w (w.alloc (.cells #[.int .u64 ns, .int .i64 ext, .pointer q] 41)) := (Below.refl _ _).alloc (Nat.le_refl _) _
  have TC := TCell.new w ns ext (.pointer q) 41
  obtain ⟨c0, c1, c2⟩ := TC
  have hfin : ∀ (W : World) (Z : Array Value) (ty : TypeId), Below w.heap.size w W → w.heap.size < W.heap.size → Z.size = 35 → Calls Tryd.prog 35 #[.agg #[.int .u64 ns, .int .i64 ext, .pointer q], .slice (some ⟨W.heap.size, 0, none⟩) 0 35, .string ⟨#[84, 105, 109, 101, 46, 77, 97, 114, 115, 104, 97, 108, 84, 101, 120, 116, 58, 32]⟩] (W.alloc (.cells Z ty)).drew fun e w' => ∃ v', e = .returned (.tuple #[v', .nilIface]) ∧ Row w' w.heap.size v' R ∧ Below w.heap.size w w' ∧ ∀ j v, (W.alloc (.cells Z ty)).drew.cell? ⟨w.heap.size, j, none⟩ = some v → w'.cell? ⟨w.heap.size, j, none⟩ = some v := by
    intro W Z ty hW hlt hZ
    have hb2 : Below w.heap.size w (W.alloc (.cells Z ty)).drew := (hW.alloc hW.size _).drew
    have hr := (row_blank W Z ty 35 hZ (by simp [maxLen])).drew
    refine (appendTo_ok (hT.below hb2) _ [] W.heap.size (by simp) hr (by simp) (by intro g e; obtain rfl : W.heap.size = g := Option.some.inj e; simp) _).mono ?_
    rintro e w' ⟨v', rfl, hr', hg⟩
    refine ⟨v', rfl, ?_, hb2.trans (hg.below (by simp; omega) (fun g e => by obtain rfl : W.heap.size = g := Option.some.inj e; omega)), fun j v hc => hg.cell hc (fun e => by have : W.heap.size = w.heap.size := Option.some.inj e; omega)⟩
    obtain ⟨g, off, cap, rfl, h1, h2, h3, h4, h5⟩ := hr'
    exact ⟨g, off, cap, rfl, by omega, h2, h3, h4, h5⟩
  obtain ⟨Z, hZ, hmk⟩ := make_row (w.alloc (.cells #[.int .u64 ns, .int .i64 ext, .pointer q] 41)).drew 35 (by omega)
  have hs : (w.alloc (.cells #[.int .u64 ns, .int .i64 ext, .pointer q] 41)).drew.heap.size = w.heap.size + 1 := by simp
  rw [hs] at hmk
  have hmk2 : (Instr.makeSlice 47 (.int .i64 0) (.int .i64 35)).run Tryd.prog (w.alloc (.cells #[.int .u64 ns, .int .i64 ext, .pointer q] 41)).drew = .ok (.slice (some ⟨w.heap.size + 1, 0, none⟩) 0 35) ((w.alloc (.cells #[.int .u64 ns, .int .i64 ext, .pointer q] 41)).drew.alloc (.cells Z 5)) := hmk
  have hs2 : (w.alloc (.cells #[.int .u64 ns, .int .i64 ext, .pointer q] 41)).heap.size = w.heap.size + 1 := by simp
  have hF := hfin (w.alloc (.cells #[.int .u64 ns, .int .i64 ext, .pointer q] 41)) Z 5 hb1 (by rw [hs2]; omega) hZ
  rw [hs2] at hF
  have HF := hide hF
  clear hT hfin hb1 hmk hs hs2 hF
  go_enter Tryd.func22, Tryd.ntmps22
  go_wp2_with fail
  go_region_held3 (fun w' => w'.cell? ⟨w.heap.size, 0, none⟩ = some (.int .u64 (ns : Nat)) ∧ w'.cell? ⟨w.heap.size, 1, none⟩ = some (.int .i64 ext) ∧ w'.cell? ⟨w.heap.size, 2, none⟩ = some (.pointer q))
    (first | (go_split_ands; exact ⟨HK.out _ _ ‹_›, HK.out _ _ ‹_›, HK.out _ _ ‹_›⟩) | go_keep)
    (first | (go_at_call 35; refine HF.out.mono ?_; rintro e w1 ⟨v', rfl, hr, hb, hk⟩; have HR := hide hr; have HB := hide hb; have HK := hide hk; clear hr hb hk HF))
  go_wp2_with fail
  refine bodyPost_ret (v := .tuple #[v', .nilIface]) ?_ rfl ?_
  · simp [results, Tryd.results22, go_sem]
  · exact ⟨_, rfl, HR.out, HB.out⟩

theorem Row.own_lt {w : World} {base : Nat} {v : Value} {l : List UInt8} (h : Row w base v l) (hl : 0 < l.length) : ∀ g, v.ownBlock = some g → g < w.heap.size := by
  obtain ⟨g, off, cap, rfl, hr⟩ := h
  intro g' e
  obtain rfl : g = g' := by simpa [Value.ownBlock] using e
  exact hr.lt (Nat.lt_of_lt_of_le hl hr.le)
theorem Row.base_le {w : World} {base base' : Nat} {v : Value} {l : List UInt8} (h : Row w base v l) (hb : base' ≤ base) : Row w base' v l := by
  obtain ⟨g, off, cap, rfl, h1, h2, h3, h4, h5⟩ := h
  exact ⟨g, off, cap, rfl, by omega, h2, h3, h4, h5⟩
set_option maxRecDepth 100000 in
set_option maxHeartbeats 2000000 in
theorem MarshalJSON_ok {w : World} {ns : Nat} {ext : Int} {q : Option Addr} {R : List UInt8} (hT : TextOK w (.agg #[.int .u64 ns, .int .i64 ext, .pointer q]) R) (hR : R.length ≤ 10000) :
    Calls Tryd.prog 23 #[.agg #[.int .u64 ns, .int .i64 ext, .pointer q]] w fun e w' => ∃ v', e = .returned (.tuple #[v', .nilIface]) ∧ Row w' w.heap.size v' ([34] ++ R ++ [34]) ∧ Below w.heap.size w w' := by
  obtain ⟨i0, hi, hz0, hz1, hz2⟩ := info_parts info_u8
  obtain ⟨W, hW⟩ : ∃ W, W = (w.alloc (.cells #[.int .u64 ns, .int .i64 ext, .pointer q] 41)) := ⟨_, rfl⟩
  have hb1 : Below w.heap.size w W := by rw [hW]; exact (Below.refl _ _).alloc (Nat.le_refl _) _
  have hWs : W.heap.size = w.heap.size + 1 := by rw [hW]; simp
  have TC : TCell W w.heap.size ns ext (.pointer q) := by rw [hW]; exact TCell.new w ns ext (.pointer q) 41
  obtain ⟨Z, hZ, hmk⟩ := make_row W 37 (by omega)
  rw [hWs] at hmk
  have hmk2 : (Instr.makeSlice 47 (.int .i64 0) (.int .i64 37)).run Tryd.prog W = .ok (.slice (some ⟨w.heap.size + 1, 0, none⟩) 0 37) (W.alloc (.cells Z 5)) := hmk
  clear hmk
  have hr0 := row_blank W Z 5 37 hZ (by simp [maxLen])
  rw [hWs] at hr0
  have hb2 : Below w.heap.size w (W.alloc (.cells Z 5)) := hb1.alloc hb1.size _
  have hsz : (W.alloc (.cells Z 5)).heap.size = w.heap.size + 2 := by simp [hWs]
  have TC2 := TC.below ((Below.refl W.heap.size W).alloc (Nat.le_refl _) (.cells Z 5))
  have HB := hide hb2
  have HT := hide hT
  have HTC := hide TC2
  clear hb1 hb2 hT TC2 hZ
  subst hW
  obtain ⟨c0, c1, c2⟩ := TC
  go_enter Tryd.func23, Tryd.ntmps23
  have hnews := news_new ((w.alloc (.cells #[.int .u64 ns, .int .i64 ext, .pointer q] 41)).alloc (.cells Z 5)) #[.int .u8 34] 5 (0, 0) [34] (row1 rfl)
  rw [hsz] at hnews
  have hne : (Value.slice (some ⟨w.heap.size + 1, 0, none⟩) 0 37).ownBlock ≠ some w.heap.size := fun e => by have : w.heap.size + 1 = w.heap.size := Option.some.inj e; omega
  go_wp2_with (at_builtin; refine wpList_append_gr _ rfl (.tmp 7) (.tmp 8) 47 rfl 5 i0 (.int .u8 0) Tryd.underlying47 hi hz0 hz1 hz2 rfl rfl (hr0.alloc _) (by simp) ⟨w.heap.size + 2, 0, none⟩ 1 1 [34] rfl rfl hnews (by simp) ?_; intro v3 w3 hr3 hg3; have hT3 := (HTC.out.below ((Below.refl _ _).alloc (Nat.le_refl _) _)).gr hg3 hne; obtain ⟨d0, d1, d2⟩ := hT3)
  have b3 : Below w.heap.size w w3 := (HB.out.alloc (by simp; omega) _).trans (hg3.below (by simp; omega) (fun g e => by obtain rfl : w.heap.size + 1 = g := Option.some.inj e; omega))
  have s3 : w.heap.size + 1 ≤ w3.heap.size := by have := hg3.grown.size; simp at this; omega
  have hA := HT.out w3 v3 [34] (w.heap.size + 1) b3 (by simp) hr3 s3 (hr3.own_lt (by simp))
  have HA := hide hA
  have B3 := hide b3
  clear hA b3 hg3 hnews HTC HB HT hr0 hsz hWs
  refine HA.out.mono ?_
  rintro e w4 ⟨v4, rfl, hr4, hg4⟩
  have b4 : Below w.heap.size w w4 := B3.out.trans ((hg4.row_below hr3 s3).mono (by omega))
  have s4 : w.heap.size + 1 ≤ w4.heap.size := Nat.le_trans s3 hg4.grown.size
  have B4 := hide b4
  clear HA B3 b4 hg4 hr3 s3 d0 d1 d2
  go_wp2_with (at_builtin; refine wpList_append_gr _ rfl (.tmp 16) (.tmp 17) 47 rfl 5 i0 (.int .u8 0) Tryd.underlying47 hi hz0 hz1 hz2 rfl rfl (hr4.alloc _) (by simp; omega) ⟨w4.heap.size, 0, none⟩ 1 1 [34] rfl rfl (news_new w4 _ _ _ _ (row1 rfl)) (by simp; omega) ?_; intro v5 w5 hr5 hg5)
  have b5 : Below w.heap.size w w5 := (B4.out.alloc B4.out.size _).trans ((hg5.row_below (hr4.alloc _) (by simp; omega)).mono (by omega))
  refine bodyPost_ret (v := .tuple #[v5, .nilIface]) ?_ rfl ?_
  · simp [results, Tryd.results23, go_sem]
  · exact ⟨_, rfl, hr5.base_le (by omega), b5⟩
end Go.Proofs.YtgcjhakhepgjlaaDoor
