/-
  WALKS, the strict road, part d: what is written by RFC 3339 is looked over: appendStrictRFC3339.
-/
import Derived.Test.YtgcjhakhepgjlaaDoorU5
namespace Go.Proofs.YtgcjhakhepgjlaaDoor
open Go.RowKit
set_option linter.unusedVariables false
set_option linter.unusedSimpArgs false
attribute [local go_sem] ByteArray.extract_mk get_mk ByteArray.toList_mk ByteArray.mk_append_mk take_drop_len

/-- two digits as a number -/
theorem num2b_any (g o c p q : Nat) (hp : p < 10) (hq : q < 10) (w : World) (h0 : w.cell? ⟨g, o, none⟩ = some (.int .u8 ((48 + p : Nat) : Int))) (h1 : w.cell? ⟨g, o + 1, none⟩ = some (.int .u8 ((48 + q : Nat) : Int))) :
    Calls Tryd.prog 58 #[.slice (some ⟨g, o, none⟩) 5 c] w fun e w' => e = .returned (.int .u8 ((10 * p + q : Nat) : Int)) ∧ Qt w w' := by
  go_enter Tryd.func58, Tryd.ntmps58
  go_wp2_with fail
  have f1 : Hid (IntKind.u8.wrap (10 * IntKind.u8.wrap (((48 + p : Nat) : Int) - 48)) = ((10 * p : Nat) : Int)) := by show _ = _; simp only [IntKind.wrap_u8]; omega
  go_region_held3 (fun w' => w'.cell? ⟨g, o, none⟩ = some (.int .u8 ((48 + p : Nat) : Int)) ∧ w'.cell? ⟨g, o + 1, none⟩ = some (.int .u8 ((48 + q : Nat) : Int)))
    (go_keep)
    (fail)
  go_wp2_with fail
  go_ret
  exact ⟨ret_int (by simp only [IntKind.wrap_u8]; omega), (Qt.refl _).drew⟩

set_option maxRecDepth 100000 in
set_option maxHeartbeats 2000000 in
/-- a text that ends in Z -/
theorem asr_z (R l0 : List UInt8) (hl : (l0 ++ R).length ≤ 100000000000) (hR : 4 < R.length) (ns : Nat) (ext : Int) (q : Option Addr) (v0 : Value) (base : Nat) (w : World) (hr : Row w base v0 l0)
    (HA : ∀ w', Below w.heap.size w w' → Calls Tryd.prog 57 #[.agg #[.int .u64 ns, .int .i64 ext, .pointer q], v0, .bool true] w' fun e w'' => ∃ v', e = .returned v' ∧ Row w'' base v' (l0 ++ R) ∧ Gr w' w'' v0 v')
    (k4 : (l0 ++ R)[l0.length + 4]? = some 45) (kz : (l0 ++ R)[(l0 ++ R).length - 1]? = some 90) :
    Calls Tryd.prog 36 #[.agg #[.int .u64 ns, .int .i64 ext, .pointer q], v0] w fun e w' => ∃ v', e = .returned (.tuple #[v', .nilIface]) ∧ Row w' base v' (l0 ++ R) ∧ Gr w w' v0 v' := by
  obtain ⟨g0, of0, cp0, rfl, hr0⟩ := hr
  have hb1 : Below w.heap.size w (w.alloc (.cells #[.int .u64 ns, .int .i64 ext, .pointer q] 41)) := (Below.refl _ _).alloc (Nat.le_refl _) _
  have TC := TCell.new w ns ext (.pointer q) 41
  have HC := hide (HA _ hb1)
  have HB := hide hb1
  have hlen : (l0 ++ R).length = l0.length + R.length := List.length_append
  obtain ⟨L, hL⟩ : ∃ L, L = l0 ++ R := ⟨_, rfl⟩
  rw [← hL] at HC k4 kz hl hlen ⊢
  obtain ⟨n0, hn0⟩ : ∃ n, n = l0.length := ⟨_, rfl⟩
  rw [← hn0] at k4 hlen HC ⊢
  have b4 : n0 + 4 < L.length := by omega
  have b5 : (n0 : Int) + 4 < (L.length : Int) := by omega
  have b6 : (n0 : Int) ≤ 100000000000 := by omega
  have b7 : (L.length : Int) ≤ 100000000000 := by omega
  have b8 : 0 ≤ (L.length : Int) - 1 := by omega
  have b9 : (L.length : Int) - 1 < (L.length : Int) := by omega
  clear HA hb1 hR hlen hl hL hn0
  obtain ⟨c0, c1, c2⟩ := TC
  go_enter Tryd.func36, Tryd.ntmps36
  go_wp2_with fail
  refine HC.out.mono ?_
  rintro e w1 ⟨v', rfl, ⟨g, o, cp, rfl, hra⟩, hg⟩
  have d4 : w1.cell? ⟨g, o + (n0 + 4), none⟩ = some (.int .u8 45) := by
    have hj : n0 + 4 < L.length := by omega
    have := hra.cells _ hj
    rw [List.getElem?_eq_getElem hj] at k4
    rw [Option.some.inj k4] at this
    exact this
  have dz : w1.cell? ⟨g, o + (L.length - 1), none⟩ = some (.int .u8 90) := by
    have hj : L.length - 1 < L.length := by omega
    have := hra.cells _ hj
    rw [List.getElem?_eq_getElem hj] at kz
    rw [Option.some.inj kz] at this
    exact this
  have HR := hide hra
  have HG := hide hg
  clear hra hg HC k4 kz c0 c1 c2 hr0
  go_wp2_with fail
  refine bodyPost_ret (v := .tuple #[.slice (some ⟨g, o, none⟩) L.length cp, .nilIface]) ?_ rfl ?_
  · simp [results, Tryd.results36, go_sem]
  · exact ⟨_, rfl, ⟨g, o, cp, rfl, HR.out⟩, (Gr.of_below HB.out _).trans HG.out⟩
set_option maxRecDepth 100000 in
set_option maxHeartbeats 2000000 in
/-- a text that ends in an offset of less than a day -/
theorem asr_o (R l0 : List UInt8) (hl : (l0 ++ R).length ≤ 100000000000) (hR : 6 < R.length) (ns : Nat) (ext : Int) (q : Option Addr) (v0 : Value) (base : Nat) (w : World) (hr : Row w base v0 l0)
    (HA : ∀ w', Below w.heap.size w w' → Calls Tryd.prog 57 #[.agg #[.int .u64 ns, .int .i64 ext, .pointer q], v0, .bool true] w' fun e w'' => ∃ v', e = .returned v' ∧ Row w'' base v' (l0 ++ R) ∧ Gr w' w'' v0 v')
    (k4 : (l0 ++ R)[l0.length + 4]? = some 45) (z sg : UInt8) (hz : z ≠ 90) (hsg : sg.toNat < 48) (kz : (l0 ++ R)[(l0 ++ R).length - 1]? = some z) (k6 : (l0 ++ R)[(l0 ++ R).length - 6]? = some sg) (p r : Nat) (hp : p < 10) (hr2 : r < 10) (hpr : 10 * p + r < 24) (k5 : (l0 ++ R)[(l0 ++ R).length - 5]? = some (UInt8.ofNat (48 + p))) (k3 : (l0 ++ R)[(l0 ++ R).length - 4]? = some (UInt8.ofNat (48 + r))) :
    Calls Tryd.prog 36 #[.agg #[.int .u64 ns, .int .i64 ext, .pointer q], v0] w fun e w' => ∃ v', e = .returned (.tuple #[v', .nilIface]) ∧ Row w' base v' (l0 ++ R) ∧ Gr w w' v0 v' := by
  obtain ⟨g0, of0, cp0, rfl, hr0⟩ := hr
  have hb1 : Below w.heap.size w (w.alloc (.cells #[.int .u64 ns, .int .i64 ext, .pointer q] 41)) := (Below.refl _ _).alloc (Nat.le_refl _) _
  have TC := TCell.new w ns ext (.pointer q) 41
  have HC := hide (HA _ hb1)
  have HB := hide hb1
  have hlen : (l0 ++ R).length = l0.length + R.length := List.length_append
  obtain ⟨L, hL⟩ : ∃ L, L = l0 ++ R := ⟨_, rfl⟩
  rw [← hL] at HC k4 kz k6 k5 k3 hl hlen ⊢
  obtain ⟨n0, hn0⟩ : ∃ n, n = l0.length := ⟨_, rfl⟩
  rw [← hn0] at k4 hlen HC ⊢
  have b4 : n0 + 4 < L.length := by omega
  have b5 : (n0 : Int) + 4 < (L.length : Int) := by omega
  have b6 : (n0 : Int) ≤ 100000000000 := by omega
  have b7 : (L.length : Int) ≤ 100000000000 := by omega
  have b8 : 0 ≤ (L.length : Int) - 1 := by omega
  have b9 : (L.length : Int) - 1 < (L.length : Int) := by omega
  have b10 : 0 ≤ (L.length : Int) - 6 := by omega
  have b11 : (L.length : Int) - 6 < (L.length : Int) := by omega
  have b12 : 0 ≤ (L.length : Int) - 5 := by omega
  have b13 : (L.length : Int) - 5 ≤ (L.length : Int) := by omega
  have ez : ((z.toNat : Int) != 90) = true := by
    rw [bne_iff_ne]
    intro h
    exact hz (UInt8.toNat_inj.1 (by rw [show (90 : UInt8).toNat = 90 from rfl]; omega))
  have eg : ¬ (48 : Int) ≤ (sg.toNat : Int) := by omega
  clear hz hsg
  clear HA hb1 hR hlen hl hL hn0
  obtain ⟨c0, c1, c2⟩ := TC
  go_enter Tryd.func36, Tryd.ntmps36
  go_wp2_with fail
  refine HC.out.mono ?_
  rintro e w1 ⟨v', rfl, ⟨g, o, cp, rfl, hra⟩, hg⟩
  have d4 : w1.cell? ⟨g, o + (n0 + 4), none⟩ = some (.int .u8 45) := by
    have hj : n0 + 4 < L.length := by omega
    have := hra.cells _ hj
    rw [List.getElem?_eq_getElem hj] at k4
    rw [Option.some.inj k4] at this
    exact this
  have dz : w1.cell? ⟨g, o + (L.length - 1), none⟩ = some (.int .u8 (z.toNat : Int)) := by
    have hj : L.length - 1 < L.length := by omega
    have := hra.cells _ hj
    rw [List.getElem?_eq_getElem hj] at kz
    rw [Option.some.inj kz] at this
    exact this
  have d6 : w1.cell? ⟨g, o + (L.length - 6), none⟩ = some (.int .u8 (sg.toNat : Int)) := by
    have hj : L.length - 6 < L.length := by omega
    have := hra.cells _ hj
    rw [List.getElem?_eq_getElem hj] at k6
    rw [Option.some.inj k6] at this
    exact this
  have d5 : w1.cell? ⟨g, o + (L.length - 5), none⟩ = some (.int .u8 ((48 + p : Nat) : Int)) := by
    have hj : L.length - 5 < L.length := by omega
    have := hra.cells _ hj
    rw [List.getElem?_eq_getElem hj] at k5
    rw [Option.some.inj k5] at this
    rw [← dig_byte hp] at this
    exact this
  have d3 : w1.cell? ⟨g, o + (L.length - 4), none⟩ = some (.int .u8 ((48 + r : Nat) : Int)) := by
    have hj : L.length - 4 < L.length := by omega
    have := hra.cells _ hj
    rw [List.getElem?_eq_getElem hj] at k3
    rw [Option.some.inj k3] at this
    rw [← dig_byte hr2] at this
    exact this
  have D5 := hide d5
  have D3 := hide d3
  clear d5 d3
  have hle := hra.le
  have hc5 : L.length - 5 < cp := by omega
  have hc6 : ¬ L.length - 5 = cp := by omega
  have hc7 : ¬ cp = L.length - 5 := by omega
  have h55 : L.length - (L.length - 5) = 5 := by omega
  clear hle
  have HR := hide hra
  have HG := hide hg
  clear hra hg HC k4 kz k6 k5 k3 c0 c1 c2 hr0
  go_wp2_with fail
  refine (num2b_any g (o + (L.length - 5)) _ p r hp hr2 w1 D5.out (by have := D3.out; rw [show o + (L.length - 5) + 1 = o + (L.length - 4) by omega]; exact this)).mono ?_
  rintro e w2 ⟨rfl, hq⟩
  have ep : ¬ (24 : Int) ≤ ((10 * p + r : Nat) : Int) := by omega
  have HR2 := hide ((show Row w1 base (.slice (some ⟨g, o, none⟩) L.length cp) L from ⟨g, o, cp, rfl, HR.out⟩).below (hq.below _))
  have HG2 := hide (((Gr.of_below HB.out _).trans HG.out).then_below (hq.below _))
  clear hq HR HG HB d4 dz d6 D5 D3
  go_wp2_with fail
  refine bodyPost_ret (v := .tuple #[.slice (some ⟨g, o, none⟩) L.length cp, .nilIface]) ?_ rfl ?_
  · simp [results, Tryd.results36, go_sem]
  · exact ⟨_, rfl, HR2.out, HG2.out⟩

set_option maxRecDepth 100000 in
theorem errNew_any (s : List UInt8) (w : World) : Calls Tryd.prog 37 #[.string ⟨s.toArray⟩] w fun e w' => e = .returned (.iface 100 (.pointer (some ⟨w.heap.size, 0, none⟩))) ∧ w'.cell? ⟨w.heap.size, 0, none⟩ = some (.string ⟨s.toArray⟩) ∧ Below w.heap.size w w' := by
  go_enter Tryd.func37, Tryd.ntmps37
  go_wp2_with fail
  go_ret
  refine ⟨rfl, ?_, (Below.refl _ _).alloc (Nat.le_refl _) _⟩
  go_simp
theorem errStr_any (s : List UInt8) (a : Addr) (w : World) (h : w.cell? a = some (.string ⟨s.toArray⟩)) : Calls Tryd.prog 112 #[.pointer (some a)] w fun e w' => e = .returned (.string ⟨s.toArray⟩) ∧ Qt w w' := by
  go_enter Tryd.func112, Tryd.ntmps112
  go_wp2_with fail
  go_ret
  exact ⟨rfl, Qt.refl _⟩

set_option maxRecDepth 100000 in
set_option maxHeartbeats 2000000 in
/-- a text whose year has not four digits -/
theorem asr_y (R l0 : List UInt8) (hl : (l0 ++ R).length ≤ 100000000000) (hR : 4 < R.length) (ns : Nat) (ext : Int) (q : Option Addr) (v0 : Value) (base : Nat) (w : World) (hr : Row w base v0 l0)
    (HA : ∀ w', Below w.heap.size w w' → Calls Tryd.prog 57 #[.agg #[.int .u64 ns, .int .i64 ext, .pointer q], v0, .bool true] w' fun e w'' => ∃ v', e = .returned v' ∧ Row w'' base v' (l0 ++ R) ∧ Gr w' w'' v0 v')
    (c : UInt8) (hc : c ≠ 45) (k4 : (l0 ++ R)[l0.length + 4]? = some c) :
    Calls Tryd.prog 36 #[.agg #[.int .u64 ns, .int .i64 ext, .pointer q], v0] w fun e w' => ∃ v' a s, e = .returned (.tuple #[v', .iface 100 (.pointer (some a))]) ∧ w'.cell? a = some (.string ⟨s⟩) ∧ s.size ≤ 100 ∧ v'.ownBlock ≠ some a.block ∧ Row w' base v' (l0 ++ R) ∧ Gr w w' v0 v' := by
  obtain ⟨g0, of0, cp0, rfl, hr0⟩ := hr
  have hb1 : Below w.heap.size w (w.alloc (.cells #[.int .u64 ns, .int .i64 ext, .pointer q] 41)) := (Below.refl _ _).alloc (Nat.le_refl _) _
  have TC := TCell.new w ns ext (.pointer q) 41
  have HC := hide (HA _ hb1)
  have HB := hide hb1
  have hlen : (l0 ++ R).length = l0.length + R.length := List.length_append
  obtain ⟨L, hL⟩ : ∃ L, L = l0 ++ R := ⟨_, rfl⟩
  rw [← hL] at HC k4 hl hlen ⊢
  obtain ⟨n0, hn0⟩ : ∃ n, n = l0.length := ⟨_, rfl⟩
  rw [← hn0] at k4 hlen HC ⊢
  have b4 : n0 + 4 < L.length := by omega
  have b5 : (n0 : Int) + 4 < (L.length : Int) := by omega
  have b6 : (n0 : Int) ≤ 100000000000 := by omega
  have b7 : (L.length : Int) ≤ 100000000000 := by omega
  have b8 : 0 ≤ (L.length : Int) - 1 := by omega
  have b9 : (L.length : Int) - 1 < (L.length : Int) := by omega
  have ec : ((c.toNat : Int) != 45) = true := by
    rw [bne_iff_ne]
    intro h
    exact hc (UInt8.toNat_inj.1 (by rw [show (45 : UInt8).toNat = 45 from rfl]; omega))
  clear hc HA hb1 hR hlen hl hL hn0
  obtain ⟨c0, c1, c2⟩ := TC
  go_enter Tryd.func36, Tryd.ntmps36
  go_wp2_with fail
  refine HC.out.mono ?_
  rintro e w1 ⟨v', rfl, ⟨g, o, cp, rfl, hra⟩, hg⟩
  have d4 : w1.cell? ⟨g, o + (n0 + 4), none⟩ = some (.int .u8 (c.toNat : Int)) := by
    have hj : n0 + 4 < L.length := by omega
    have := hra.cells _ hj
    rw [List.getElem?_eq_getElem hj] at k4
    rw [Option.some.inj k4] at this
    exact this
  have hgl : g < w1.heap.size := hra.lt (by have := hra.le; omega)
  have HGL := hide hgl
  clear hgl
  have HR := hide hra
  have HG := hide hg
  clear hra hg HC k4 c0 c1 c2 hr0
  go_wp2_with fail
  refine (errNew_any _ _).mono ?_
  rintro e w2 ⟨rfl, hcl, hq⟩
  have HR2 := hide ((show Row w1 base (.slice (some ⟨g, o, none⟩) L.length cp) L from ⟨g, o, cp, rfl, HR.out⟩).below hq)
  have HG2 := hide (((Gr.of_below HB.out _).trans HG.out).then_below hq)
  clear hq HR HG HB d4
  go_wp2_with fail
  refine bodyPost_ret (v := .tuple #[.slice (some ⟨g, o, none⟩) L.length cp, .iface 100 (.pointer (some ⟨w1.heap.size, 0, none⟩))]) ?_ rfl ?_
  · simp [results, Tryd.results36, go_sem]
  · exact ⟨_, _, _, rfl, hcl, by decide, fun e => by have h1 : g = w1.heap.size := Option.some.inj e; have := HGL.out; omega, HR2.out, HG2.out⟩
end Go.Proofs.YtgcjhakhepgjlaaDoor
