/-
  WALKS: bytes handed in: the thin package's AppendFormat and RFC3339.
-/
import Derived.Test.YtjkfjlifcilejaaDoorU5
import Derived.Test.YtjkfjlifcilejaaDoorOp
namespace Go.Proofs.YtjkfjlifcilejaaDoor
open Go.RowKit
set_option linter.unusedVariables false
set_option linter.unusedSimpArgs false
attribute [local go_sem] ByteArray.extract_mk get_mk ByteArray.toList_mk ByteArray.mk_append_mk take_drop_len

theorem PB.below {w w' : World} {ao : Option Addr} {l : List UInt8} (h : PB w ao l) (hb : Below w.heap.size w w') : PB w' ao l := by
  rcases h with h | ⟨b, o, e, h⟩
  · exact .inl h
  · exact .inr ⟨b, o, e, fun k hk => Below.cellk hb (h k hk)⟩
theorem run_append_bytes {P : Program} (w : World) (t ty e : TypeId) (i : TypeInfo) (z : Value) (ht : P.underlying t = some (.slice e)) (hi : P.info? e = some i) (hz : i.zero = some z)
    (hsize : i.size = 1) (hby : i.bytes = 1) (hzs : z.cells.size = 1) {base : Nat} {v : Value} {l : List UInt8} (h : Row w base v l) (hb : base ≤ w.heap.size) (hv : ∀ g, v.ownBlock = some g → g < w.heap.size)
    (ao : Option Addr) (c : Nat) (news : List UInt8) (hP : PB w ao news) (hlen : l.length + news.length ≤ 140737488355328) :
    ∃ v' w', (Builtin.append_ #[t, t] ty #[v, .slice ao news.length c]).run P w = .ok v' w' ∧ Row w' base v' (l ++ news) ∧ Gr w w' v v' ∧ ∀ g, v'.ownBlock = some g → g < w'.heap.size := by
  by_cases hn : news = []
  · subst hn
    obtain ⟨g, off, cap, rfl, hr⟩ := h
    have hs : Src P i.size t (.slice ao 0 c) 0 [] w := by
      cases ao with
      | none => exact Src.ofNil w ht c
      | some a => exact Src.ofSlice w ht a 0 c [] (by simp) (by simp) (by simp)
    have hrun := run_append_room_src (P := P) w t t ty e i ht hi g off l.length cap (.slice ao 0 c) 0 [] hs hr.le (fun j hj => absurd hj (by simp)) (fun j hj => absurd hj (by simp))
    refine ⟨_, _, hrun, ⟨g, off, cap, by simp, ?_⟩, ?_, hv⟩
    · rw [List.append_nil]; exact hr
    · exact ⟨World.grownBy.refl w _, fun g hg => .inl hg⟩
  · obtain ⟨b, o, rfl, hc⟩ : ∃ b o, ao = some ⟨b, o, none⟩ ∧ ∀ k (h : k < news.length), w.cell? ⟨b, o + k, none⟩ = some (.int .u8 (news[k].toNat : Int)) := by
      rcases hP with h | h
      · exact absurd h hn
      · exact h
    obtain ⟨v', w', hrun, r1, r2⟩ := run_append_row_sl (P := P) w t ty e i z ht hi hz hsize hby hzs h hb ⟨b, o, none⟩ news.length c news rfl (fun j hj => by rw [Addr.add_lit]; exact hc j hj) hlen
    refine ⟨v', w', hrun, r1, r2, ?_⟩
    obtain ⟨g, off, cap, rfl, hr⟩ := r1
    intro g' e
    obtain rfl : g = g' := Option.some.inj e
    refine hr.lt ?_
    have := hr.le
    have hnl : 0 < news.length := List.length_pos_iff.2 hn
    rw [List.length_append] at this
    omega
theorem wpList_append_bytes {P : Program} (w : World) {ops : Array Oper} {rest : List Oper} {o : Oper} {a : Act} {Q : Exit → Act → World → Prop} (hgd : o.guard = none) (s x : Operand) (t : TypeId)
    (ho : o.op = .call { callee := .builtin .append, args := #[s, x], argTypes := #[t, t] }) (e : TypeId) (i : TypeInfo) (z : Value) (ht : P.underlying t = some (.slice e)) (hi : P.info? e = some i) (hz : i.zero = some z)
    (hsize : i.size = 1) (hby : i.bytes = 1) (hzs : z.cells.size = 1) {base : Nat} {v : Value} {l : List UInt8} (hs : a.eval s = v) (h : Row w base v l) (hb : base ≤ w.heap.size) (hv : ∀ g, v.ownBlock = some g → g < w.heap.size)
    (ao : Option Addr) (c : Nat) (news : List UInt8) (hx : a.eval x = .slice ao news.length c) (hP : PB w ao news)
    (hlen : l.length + news.length ≤ 140737488355328)
    (hK : ∀ v' w', Row w' base v' (l ++ news) → Gr w w' v v' → (∀ g, v'.ownBlock = some g → g < w'.heap.size) → wpList P ops Q rest (a.put o.dst v') w') : wpList P ops Q (o :: rest) a w := by
  obtain ⟨v', w', hrun, r1, r2, r3⟩ := run_append_bytes (P := P) w t o.type e i z ht hi hz hsize hby hzs h hb hv ao c news hP hlen
  exact Lib.wpList_append_run w hgd s x t t ho v _ hs hx v' w' hrun (hK v' w' r1 r2 r3)

theorem AppendRFC_any {t : Fs.Tm} (TD : TmD t) (nanos : Bool) (l0 : List UInt8) (hl0 : l0.length ≤ 10000000000) (tv v0 : Value) (base : Nat) (w : World) (HT : Told w tv t.year t.month t.day t.hour t.min t.sec t.nano t.name t.off) (hr : Row w base v0 l0) (hb : base ≤ w.heap.size)
    (hv : ∀ g, v0.ownBlock = some g → g < w.heap.size) :
    Calls Tryd.prog 53 #[tv, v0, .bool nanos] w fun e w' => ∃ v', e = .returned v' ∧ Row w' base v' (l0 ++ Fs.rfc t nanos) ∧ Gr w w' v0 v' := by
  obtain ⟨⟨lv, rfl, hTL⟩, hd, hc, o1, o2⟩ := HT
  obtain ⟨q, rfl⟩ := hTL.ptr
  unfold timeV
  obtain ⟨ext, hext⟩ : ∃ ext, ext = Fs.isecs (t.year : Int) t.month t.day t.hour t.min t.sec - t.off := ⟨_, rfl⟩
  have hb1 : Below w.heap.size w (w.alloc (.cells #[.int .u64 (t.nano : Nat), .int .i64 ext, .pointer q] 55)) := (Below.refl _ _).alloc (Nat.le_refl _) _
  have HT1 : Told (w.alloc (.cells #[.int .u64 (t.nano : Nat), .int .i64 ext, .pointer q] 55)) (timeV t.nano ext (.pointer q)) t.year t.month t.day t.hour t.min t.sec t.nano t.name t.off :=
    ⟨⟨.pointer q, by rw [hext], hTL.below hb1⟩, hd, hc, o1, o2⟩
  have hbb := hb1.size
  have h1 := appendRFC_told TD nanos l0 hl0 _ v0 base _ HT1 (hr.below hb1) (Nat.le_trans hb hbb) (fun g h => Nat.lt_of_lt_of_le (hv g h) hbb)
  have HG := hide (Gr.of_below hb1 v0)
  unfold timeV at h1
  have H1 := hide h1
  rw [← hext]
  clear h1 HT1 hb1 hext hTL hd hc o1 o2 hr hv hb hbb
  go_enter Tryd.func53, Tryd.ntmps53
  go_wp2_with fail
  refine H1.out.mono ?_
  rintro e w2 ⟨v2, rfl, hr2, hg2⟩
  go_wp2_with fail
  go_ret
  exact ⟨v2, rfl, hr2, HG.out.trans hg2⟩
set_option maxHeartbeats 2000000 in
theorem RFC_any {name : List UInt8} {off : Int} {Y M D Hh Mi S Ns : Nat} (CF : CivF Y M D Hh Mi S Ns name off Y M D Hh Mi S Ns) (nanos : Bool) (ao : Option Addr) (cap : Nat) (l : List UInt8) (hl : l.length ≤ 2147483647) (w : World) (hP : PB w ao l) :
    Calls Tryd.prog 34 #[civilV (Y : Int) (M : Int) (D : Int) (Hh : Int) (Mi : Int) (S : Int) (Ns : Int) name off, .slice ao l.length cap, .bool nanos] w fun e w' => ∃ g o c, e = .returned (.slice (some ⟨g, o, none⟩) (l ++ Fs.rfc (tmOf Y M D Hh Mi S Ns name off) nanos).length c) ∧ RowAt w' w.heap.size (l ++ Fs.rfc (tmOf Y M D Hh Mi S Ns name off) nanos) g o c ∧ Below w.heap.size w w' := by
  have TD := CF.tmd
  have o1 := CF.o1
  have o2 := CF.o2
  obtain ⟨T, hT0⟩ : ∃ T, l ++ Fs.rfc (tmOf Y M D Hh Mi S Ns name off) nanos = T := ⟨_, rfl⟩
  rw [hT0]
  have HT0 := hide hT0
  clear hT0
  have hat := fun w => at_any CF.date CF.clock (name := name) (off := off) (by omega) (by omega) w
  have HAT := hide hat
  have HTD := hide TD
  obtain ⟨i0, hi, hz0, hz1, hz2⟩ := info_parts info_u8
  clear hat TD CF
  have b0 := ((Below.refl w.heap.size w).alloc (Nat.le_refl _) (Obj.cells #[.int .i64 (Y : Int), .int .i64 (M : Int), .int .i64 (D : Int), .int .i64 (Hh : Int), .int .i64 (Mi : Int), .int .i64 (S : Int), .int .i64 (Ns : Int), .string ⟨name.toArray⟩, .int .i64 off] 25))
  unfold civilV at *
  go_enter Tryd.func34, Tryd.ntmps34
  go_wp2_with fail
  refine (HAT.out _).mono ?_
  rintro e w1 ⟨v, rfl, hT, hq⟩
  have b1 := b0.trans (hq.mono (by simp))
  have hP1 := hP.below b1
  have hs1 := b1.size
  have bn : Below w1.heap.size w1 (w1.alloc (.cells #[] 5)) := (Below.refl _ _).alloc (Nat.le_refl _) _
  have HT1 := hide hT
  have HB := hide b1
  have HBN := hide bn
  have hr := row_blank w1 #[] 5 0 rfl (by simp [maxLen])
  have hP2 := hP1.below bn
  clear hT hq b0 HAT hP hP1 b1 bn
  go_wp2_with (at_builtin; refine wpList_append_bytes _ rfl (.tmp 9) (.tmp 10) 43 rfl 5 i0 (.int .u8 0) Tryd.underlying43 hi hz0 hz1 hz2 rfl rfl hr (by simp) (fun g e => by rw [← Option.some.inj e]; simp) ao cap l rfl hP2 (by simp; omega) ?_; intro v3 w3 hr3 hg3 hv3)
  rw [List.nil_append] at hr3
  have hown : ∀ g, (Value.slice (some ⟨w1.heap.size, 0, none⟩) 0 0).ownBlock = some g → w1.heap.size ≤ g := fun g e => by rw [← Option.some.inj e]; exact Nat.le_refl _
  have hb3 : Below w1.heap.size (w1.alloc (.cells #[] 5)) w3 := hg3.below (by simp) hown
  have hb13 := HBN.out.trans hb3
  have HT3 := HT1.out.below hb13
  have hs3 : w1.heap.size ≤ w3.heap.size := hb13.size
  have HB3 := hide (HB.out.trans (hb13.mono hs1))
  have hcall := AppendRFC_any HTD.out nanos l (by omega) v v3 w1.heap.size w3 HT3 hr3 hs3 hv3
  rw [HT0.out] at hcall
  have HCL := hide hcall
  have HR3 := hide hr3
  clear hcall hr3 hg3 hv3 hown hb3 hb13 HT3 HT1 HB HBN HTD hr hP2
  refine HCL.out.mono ?_
  rintro e w4 ⟨v4, rfl, hr4, hg4⟩
  have hb4 := HB3.out.trans ((hg4.row_below HR3.out hs3).mono hs1)
  obtain ⟨g, o, c, rfl, q1, q2, q3, q4, q5⟩ := hr4
  have hrow : RowAt w4 w.heap.size _ g o c := ⟨Nat.le_trans hs1 q1, q2, q3, q4, q5⟩
  have HROW := hide hrow
  clear hrow q1 q2 q3 q4 q5 hg4 HCL HR3 HB3
  go_wp2_with fail
  go_ret
  exact ⟨g, o, c, rfl, HROW.out, hb4⟩
set_option maxHeartbeats 2000000 in
theorem AppendF_any {name : List UInt8} {off : Int} {Y M D Hh Mi S Ns : Nat} (CF : CivF Y M D Hh Mi S Ns name off Y M D Hh Mi S Ns) (L : List UInt8) (hL : L.length ≤ 10000000) (ao : Option Addr) (cap : Nat) (l : List UInt8) (hl : l.length ≤ 2147483647) (w : World) (E : HStd w) (hP : PB w ao l) :
    Calls Tryd.prog 30 #[.slice ao l.length cap, civilV (Y : Int) (M : Int) (D : Int) (Hh : Int) (Mi : Int) (S : Int) (Ns : Int) name off, .string ⟨L.toArray⟩] w fun e w' => ∃ g o c, e = .returned (.slice (some ⟨g, o, none⟩) (l ++ Fs.fmt (tmOf Y M D Hh Mi S Ns name off) L).length c) ∧ RowAt w' w.heap.size (l ++ Fs.fmt (tmOf Y M D Hh Mi S Ns name off) L) g o c ∧ Below w.heap.size w w' := by
  have TD := CF.tmd
  have o1 := CF.o1
  have o2 := CF.o2
  have hat := fun w => at_any CF.date CF.clock (name := name) (off := off) (by omega) (by omega) w
  have HAT := hide hat
  have HTD := hide TD
  obtain ⟨T, hT0⟩ : ∃ T, l ++ Fs.fmt (tmOf Y M D Hh Mi S Ns name off) L = T := ⟨_, rfl⟩
  rw [hT0]
  have HT0 := hide hT0
  clear hT0
  have hstd := cell_lt E.1
  simp only at hstd
  obtain ⟨i0, hi, hz0, hz1, hz2⟩ := info_parts info_u8
  clear hat TD CF
  have b0 := ((Below.refl w.heap.size w).alloc (Nat.le_refl _) (Obj.cells #[.int .i64 (Y : Int), .int .i64 (M : Int), .int .i64 (D : Int), .int .i64 (Hh : Int), .int .i64 (Mi : Int), .int .i64 (S : Int), .int .i64 (Ns : Int), .string ⟨name.toArray⟩, .int .i64 off] 25))
  unfold civilV at *
  go_enter Tryd.func30, Tryd.ntmps30
  go_wp2_with fail
  refine (HAT.out _).mono ?_
  rintro e w1 ⟨v, rfl, hT, hq⟩
  have b1 := b0.trans (hq.mono (by simp))
  have hP1 := hP.below b1
  have hs1 := b1.size
  have bn : Below w1.heap.size w1 (w1.alloc (.cells #[] 5)) := (Below.refl _ _).alloc (Nat.le_refl _) _
  have HT1 := hide hT
  have HB := hide b1
  have HBN := hide bn
  have hr := row_blank w1 #[] 5 0 rfl (by simp [maxLen])
  have hP2 := hP1.below bn
  clear hT hq b0 HAT hP hP1 b1 bn
  go_wp2_with (at_builtin; refine wpList_append_bytes _ rfl (.tmp 9) (.tmp 10) 43 rfl 5 i0 (.int .u8 0) Tryd.underlying43 hi hz0 hz1 hz2 rfl rfl hr (by simp) (fun g e => by rw [← Option.some.inj e]; simp) ao cap l rfl hP2 (by simp; omega) ?_; intro v3 w3 hr3 hg3 hv3)
  rw [List.nil_append] at hr3
  have hown : ∀ g, (Value.slice (some ⟨w1.heap.size, 0, none⟩) 0 0).ownBlock = some g → w1.heap.size ≤ g := fun g e => by rw [← Option.some.inj e]; exact Nat.le_refl _
  have hb3 : Below w1.heap.size (w1.alloc (.cells #[] 5)) w3 := hg3.below (by simp) hown
  have hb13 := HBN.out.trans hb3
  have HT3 := HT1.out.below hb13
  have hs3 : w1.heap.size ≤ w3.heap.size := hb13.size
  have HB3 := hide (HB.out.trans (hb13.mono hs1))
  have hcall := AppendFormat_told HTD.out L l hL (by omega) v v3 w1.heap.size w3 (E.below HB3.out) HT3 hr3 hs3 (fun e => by have := hr3.own_ge _ e; omega) hv3
  rw [HT0.out] at hcall
  have HCL := hide hcall
  have HR3 := hide hr3
  clear hcall hr3 hg3 hv3 hown hb3 hb13 HT3 HT1 HB HBN HTD hr hP2
  refine HCL.out.mono ?_
  rintro e w4 ⟨v4, rfl, hr4, hg4⟩
  have hb4 := HB3.out.trans ((hg4.row_below HR3.out hs3).mono hs1)
  obtain ⟨g, o, c, rfl, q1, q2, q3, q4, q5⟩ := hr4
  have hrow : RowAt w4 w.heap.size _ g o c := ⟨Nat.le_trans hs1 q1, q2, q3, q4, q5⟩
  have HROW := hide hrow
  clear hrow q1 q2 q3 q4 q5 hg4 HCL HR3 HB3
  go_wp2_with fail
  go_ret
  exact ⟨g, o, c, rfl, HROW.out, hb4⟩
end Go.Proofs.YtjkfjlifcilejaaDoor
