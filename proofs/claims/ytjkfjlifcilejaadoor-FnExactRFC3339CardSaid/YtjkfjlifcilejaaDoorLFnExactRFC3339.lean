/-
  THE LAW FnExactRFC3339: its walk: it returns true at every input (printed by wip/py/gen_laws_bytes.py).
-/
import Derived.Test.YtjkfjlifcilejaaDoorSk
import Derived.Deep.RegionHeldLaw
namespace Go.Proofs.YtjkfjlifcilejaaDoor
open Go.RowKit
set_option linter.unusedVariables false
set_option linter.unusedSimpArgs false
attribute [local go_sem] ByteArray.extract_mk get_mk ByteArray.toList_mk ByteArray.mk_append_mk take_drop_len

set_option maxRecDepth 100000 in
set_option maxHeartbeats 4000000 in
theorem told_RFC_false {name : List UInt8} {off : Int} {Y M D Hh Mi S Ns : Nat} (CF : CivF Y M D Hh Mi S Ns name off Y M D Hh Mi S Ns) (ao : Option Addr) (cap : Nat) (l : List UInt8) (hl : l.length ≤ 1048576) (w : World) (hP : PB w ao l) (E : HStd w) :
    Calls Tryd.prog 13 #[civilV (Y : Int) (M : Int) (D : Int) (Hh : Int) (Mi : Int) (S : Int) (Ns : Int) name off, .slice ao l.length cap, .bool false] w fun e w' => e = .returned (.bool true) ∧ Below w.heap.size w w' := by
  have hfit : decide (name.length ≤ 2147483647) = true := by have := CF.n1; simp; omega
  have hz := fun w => zzFits3_any (Y : Int) (M : Int) (D : Int) (Hh : Int) (Mi : Int) (S : Int) (Ns : Int) name off w
  have hk := fun w => civilOk_any (Y : Int) (M : Int) (D : Int) (Hh : Int) (Mi : Int) (S : Int) (Ns : Int) name (by have := CF.n1; omega) off w
  rw [hfit] at hz
  rw [CF.ok] at hk
  have HZ := hide hz
  have HKO := hide hk
  have HW := hide writes_any
  have hwr : Fs.written (tmOf Y M D Hh Mi S Ns name off) Fs.rfcP = Fs.rfc (tmOf Y M D Hh Mi S Ns name off) false := by
    rw [← Fs.fmt_of (tmOf Y M D Hh Mi S Ns name off) (show Fs.chain Fs.rfcP = true by decide), ← Fs.fmt_rfc]
    congr 1
  have hrl : (Fs.rfc (tmOf Y M D Hh Mi S Ns name off) false).length ≤ 100000 := by
    rw [← hwr]
    have := written_len (t := tmOf Y M D Hh Mi S Ns name off) Fs.rfcP (fun p hp => by
      refine wr_le CF ?_
      revert p
      decide)
    have h2 : Fs.rfcP.length ≤ 100 := by decide
    omega
  have HPF := hide (fun w => RFC3339_pieces w)
  skip
  have HFI := hide (fun w ao cap H => Fits_any (Y : Int) (M : Int) (D : Int) (Hh : Int) (Mi : Int) (S : Int) (Ns : Int) name off CF.o1 CF.o2 ao cap Fs.rfcP w H (by decide))
  have HF1 := hide (fun w hP => RFC_any CF false ao cap l (by omega) w hP)
  have HF2 := hide (fun w ao cap H => by
    have hx := Written_any CF ao cap Fs.rfcP w H (by decide) (by intro p hp; revert p; unfold wrOk; decide) (by intro p hp; revert p; decide)
    rw [hwr] at hx
    exact hx)
  generalize Fs.rfc (tmOf Y M D Hh Mi S Ns name off) false = R at HF1 HF2 hrl
  have hnl : Fs.rfcP.length = 12 := by decide
  rw [hnl] at HFI HF2
  have hL3 : l.length + R.length ≤ 9223372036854775807 := by omega
  have hL4 : l.length + R.length ≤ maxLen := by simp [maxLen]; omega
  have hL5 : ¬ (maxLen < l.length + R.length) := by simp [maxLen]; omega
  have hL6 : ¬ (9223372036854775807 < l.length + R.length) := by omega
  clear hfit hz hk CF hwr hnl
  have b0 := (Below.refl w.heap.size w).alloc (Nat.le_refl _) (Obj.cells #[.int .i64 (Y : Int), .int .i64 (M : Int), .int .i64 (D : Int), .int .i64 (Hh : Int), .int .i64 (Mi : Int), .int .i64 (S : Int), .int .i64 (Ns : Int), .string ⟨name.toArray⟩, .int .i64 off] 25)
  have C0 := CCell.new w (Y : Int) (M : Int) (D : Int) (Hh : Int) (Mi : Int) (S : Int) (Ns : Int) name off
  have E0 := E.below b0
  have HC0 := hide C0
  have HP0 := hide (hP.below b0)
  clear C0 hP E
  unfold civilV at *
  go_enter Tryd.func13, Tryd.ntmps13
  go_wp2_with fail
  refine (HZ.out _).mono ?_
  rintro e w1 ⟨rfl, hq⟩
  have HC1 := hide (HC0.out.below hq)
  have E1 := E0.below hq
  have HP1 := hide (HP0.out.below hq)
  have b1 := b0.trans (Below.mono hq (by simp))
  clear hq HC0 E0 b0 HP0
  go_wp2_with fail
  refine (HPF.out _).mono ?_
  rintro e w2 ⟨pb, rfl, hpc, hq⟩
  have HC2 := hide (HC1.out.below hq)
  have E2 := E1.below hq
  have HP2 := hide (HP1.out.below hq)
  have HQ2 := hide hpc
  have b2 := b1.trans (Below.mono hq b1.size)
  clear hq HC1 E1 b1 HP1 hpc
  obtain ⟨c0, c1, c2, c3, c4, c5, c6, c7, c8⟩ := HC2.out
  go_wp2_with fail
  refine (HKO.out _).mono ?_
  rintro e w4 ⟨rfl, hq⟩
  clear c0 c1 c2 c3 c4 c5 c6 c7 c8
  have HC4 := hide (HC2.out.below hq)
  have E4 := E2.below hq
  have HP4 := hide (HP2.out.below hq)
  have HQ4 := hide (HQ2.out.below hq)
  have b4 := b2.trans (Below.mono hq b2.size)
  clear hq HC2 E2 b2 HP2 HQ2
  obtain ⟨c0, c1, c2, c3, c4, c5, c6, c7, c8⟩ := HC4.out
  go_wp2_with fail
  refine (HFI.out _ _ _ HQ4.out).mono ?_
  generalize Fs.fitsC off Fs.rfcP = ft
  rintro e w5 ⟨rfl, hq⟩
  clear c0 c1 c2 c3 c4 c5 c6 c7 c8
  have HC5 := hide (HC4.out.below hq)
  have E5 := E4.below hq
  have HP5 := hide (HP4.out.below hq)
  have HQ5 := hide (HQ4.out.below hq)
  have b5 := b4.trans (Below.mono hq b4.size)
  clear hq HC4 E4 b4 HP4 HQ4
  cases ft
  · go_wp2_with fail
    go_ret
    exact ⟨rfl, b5⟩
  obtain ⟨c0, c1, c2, c3, c4, c5, c6, c7, c8⟩ := HC5.out
  have hd : Below w5.heap.size w5 w5.drew := (Below.refl _ _).drew
  have HI := hide ((LawI.mk E5 b5).step hd)
  have HB := hide (HP5.out.below hd)
  have HP := hide (HQ5.out.below hd)
  have HK : Hid True := trivial
  have hcb := bytes_back ao cap l
  clear E5 b5 HC5 HP5 HQ5 hd
  go_wp2_with fail
  go_region_held_law (fun w' => w'.cell? ⟨w.heap.size, 0, none⟩ = some (.int .i64 (Y : Int)) ∧ w'.cell? ⟨w.heap.size, 1, none⟩ = some (.int .i64 (M : Int)) ∧ w'.cell? ⟨w.heap.size, 2, none⟩ = some (.int .i64 (D : Int)) ∧ w'.cell? ⟨w.heap.size, 3, none⟩ = some (.int .i64 (Hh : Int)) ∧ w'.cell? ⟨w.heap.size, 4, none⟩ = some (.int .i64 (Mi : Int)) ∧ w'.cell? ⟨w.heap.size, 5, none⟩ = some (.int .i64 (S : Int)) ∧ w'.cell? ⟨w.heap.size, 6, none⟩ = some (.int .i64 (Ns : Int)) ∧ w'.cell? ⟨w.heap.size, 7, none⟩ = some (.string ⟨name.toArray⟩) ∧ w'.cell? ⟨w.heap.size, 8, none⟩ = some (.int .i64 off) ∧ Hid (LawI w w') ∧ Hid (PB w' ao l))
    ((((try dsimp only); (repeat' apply And.intro); all_goals (first | exact HI | exact HB | (go_split_ands; exact HK.out _ _ ‹_›) | go_keep))))
    (first
      | (go_at_call 34; (refine (HF1.out _ HB.out).mono ?_; clear HF1); rintro e w6 ⟨g, o, c, rfl, hrow, hq⟩; have HKx := keepC hq; have HIx := hide (HI.out.step hq); have HBx := hide (HB.out.below hq); have HPx := hide (HP.out.below hq); clear HI HK HB HP; have HK := HKx; have HI := HIx; have HB := HBx; have HP := HPx; clear HKx HIx HBx HPx; have HROW := hide hrow; have hcv := row_back _ hrow; rw [List.length_append] at hcv; clear hq hrow)
      | (go_at_call 31; (refine (HF2.out _ _ _ HP.out).mono ?_; clear HF2); rintro e w7 ⟨rfl, hq⟩; (have HROWx := hide (RowAt.below' HROW.out hq); have hcv := row_back _ HROWx.out; rw [List.length_append] at hcv; have HROW := HROWx); have HKx := keepC hq; have HIx := hide (HI.out.step hq); have HBx := hide (HB.out.below hq); have HPx := hide (HP.out.below hq); clear HI HK HB HP; have HK := HKx; have HI := HIx; have HB := HBx; have HP := HPx; clear HKx HIx HBx HPx; clear hq)
      | (go_at_call 17; refine (HW.out _ HI.out.std).mono ?_; rintro e w8 ⟨rfl, hq⟩; (have HROWx := hide (RowAt.below' HROW.out hq); have hcv := row_back _ HROWx.out; rw [List.length_append] at hcv; have HROW := HROWx); have HKx := keepC hq; have HIx := hide (HI.out.step hq); have HBx := hide (HB.out.below hq); have HPx := hide (HP.out.below hq); clear HI HK HB HP; have HK := HKx; have HI := HIx; have HB := HBx; have HP := HPx; clear HKx HIx HBx HPx; clear hq))
  all_goals
    go_wp2_with fail
    go_ret
    exact ⟨rfl, HI.out.bel⟩

set_option maxRecDepth 100000 in
set_option maxHeartbeats 4000000 in
theorem told_RFC_true {name : List UInt8} {off : Int} {Y M D Hh Mi S Ns : Nat} (CF : CivF Y M D Hh Mi S Ns name off Y M D Hh Mi S Ns) (ao : Option Addr) (cap : Nat) (l : List UInt8) (hl : l.length ≤ 1048576) (w : World) (hP : PB w ao l) (E : HStd w) :
    Calls Tryd.prog 13 #[civilV (Y : Int) (M : Int) (D : Int) (Hh : Int) (Mi : Int) (S : Int) (Ns : Int) name off, .slice ao l.length cap, .bool true] w fun e w' => e = .returned (.bool true) ∧ Below w.heap.size w w' := by
  have hfit : decide (name.length ≤ 2147483647) = true := by have := CF.n1; simp; omega
  have hz := fun w => zzFits3_any (Y : Int) (M : Int) (D : Int) (Hh : Int) (Mi : Int) (S : Int) (Ns : Int) name off w
  have hk := fun w => civilOk_any (Y : Int) (M : Int) (D : Int) (Hh : Int) (Mi : Int) (S : Int) (Ns : Int) name (by have := CF.n1; omega) off w
  rw [hfit] at hz
  rw [CF.ok] at hk
  have HZ := hide hz
  have HKO := hide hk
  have HW := hide writes_any
  have hwr : Fs.written (tmOf Y M D Hh Mi S Ns name off) Fs.rfcPN = Fs.rfc (tmOf Y M D Hh Mi S Ns name off) true := by
    rw [← Fs.fmt_of (tmOf Y M D Hh Mi S Ns name off) (show Fs.chain Fs.rfcPN = true by decide), ← Fs.fmt_rfcN]
    congr 1
  have hrl : (Fs.rfc (tmOf Y M D Hh Mi S Ns name off) true).length ≤ 100000 := by
    rw [← hwr]
    have := written_len (t := tmOf Y M D Hh Mi S Ns name off) Fs.rfcPN (fun p hp => by
      refine wr_le CF ?_
      revert p
      decide)
    have h2 : Fs.rfcPN.length ≤ 100 := by decide
    omega
  have HPF := hide (fun w => RFC3339_pieces w)
  have HPN := hide (fun w => RFC3339Nano_pieces w)
  have HFI := hide (fun w ao cap H => Fits_any (Y : Int) (M : Int) (D : Int) (Hh : Int) (Mi : Int) (S : Int) (Ns : Int) name off CF.o1 CF.o2 ao cap Fs.rfcPN w H (by decide))
  have HF1 := hide (fun w hP => RFC_any CF true ao cap l (by omega) w hP)
  have HF2 := hide (fun w ao cap H => by
    have hx := Written_any CF ao cap Fs.rfcPN w H (by decide) (by intro p hp; revert p; unfold wrOk; decide) (by intro p hp; revert p; decide)
    rw [hwr] at hx
    exact hx)
  generalize Fs.rfc (tmOf Y M D Hh Mi S Ns name off) true = R at HF1 HF2 hrl
  have hnl : Fs.rfcPN.length = 13 := by decide
  rw [hnl] at HFI HF2
  have hL3 : l.length + R.length ≤ 9223372036854775807 := by omega
  have hL4 : l.length + R.length ≤ maxLen := by simp [maxLen]; omega
  have hL5 : ¬ (maxLen < l.length + R.length) := by simp [maxLen]; omega
  have hL6 : ¬ (9223372036854775807 < l.length + R.length) := by omega
  clear hfit hz hk CF hwr hnl
  have b0 := (Below.refl w.heap.size w).alloc (Nat.le_refl _) (Obj.cells #[.int .i64 (Y : Int), .int .i64 (M : Int), .int .i64 (D : Int), .int .i64 (Hh : Int), .int .i64 (Mi : Int), .int .i64 (S : Int), .int .i64 (Ns : Int), .string ⟨name.toArray⟩, .int .i64 off] 25)
  have C0 := CCell.new w (Y : Int) (M : Int) (D : Int) (Hh : Int) (Mi : Int) (S : Int) (Ns : Int) name off
  have E0 := E.below b0
  have HC0 := hide C0
  have HP0 := hide (hP.below b0)
  clear C0 hP E
  unfold civilV at *
  go_enter Tryd.func13, Tryd.ntmps13
  go_wp2_with fail
  refine (HZ.out _).mono ?_
  rintro e w1 ⟨rfl, hq⟩
  have HC1 := hide (HC0.out.below hq)
  have E1 := E0.below hq
  have HP1 := hide (HP0.out.below hq)
  have b1 := b0.trans (Below.mono hq (by simp))
  clear hq HC0 E0 b0 HP0
  go_wp2_with fail
  refine (HPF.out _).mono ?_
  rintro e w2 ⟨pb, rfl, hpc, hq⟩
  have HC2 := hide (HC1.out.below hq)
  have E2 := E1.below hq
  have HP2 := hide (HP1.out.below hq)
  have HQ2 := hide hpc
  have b2 := b1.trans (Below.mono hq b1.size)
  clear hq HC1 E1 b1 HP1 hpc
  go_wp2_with fail
  refine (HPN.out _).mono ?_
  rintro e w3 ⟨pb2, rfl, hpc, hq⟩
  have HC3 := hide (HC2.out.below hq)
  have E3 := E2.below hq
  have HP3 := hide (HP2.out.below hq)
  have HQ3 := hide hpc
  have b3 := b2.trans (Below.mono hq b2.size)
  clear hq HC2 E2 b2 HP2 hpc HQ2
  obtain ⟨c0, c1, c2, c3, c4, c5, c6, c7, c8⟩ := HC3.out
  go_wp2_with fail
  refine (HKO.out _).mono ?_
  rintro e w4 ⟨rfl, hq⟩
  clear c0 c1 c2 c3 c4 c5 c6 c7 c8
  have HC4 := hide (HC3.out.below hq)
  have E4 := E3.below hq
  have HP4 := hide (HP3.out.below hq)
  have HQ4 := hide (HQ3.out.below hq)
  have b4 := b3.trans (Below.mono hq b3.size)
  clear hq HC3 E3 b3 HP3 HQ3
  obtain ⟨c0, c1, c2, c3, c4, c5, c6, c7, c8⟩ := HC4.out
  go_wp2_with fail
  refine (HFI.out _ _ _ HQ4.out).mono ?_
  generalize Fs.fitsC off Fs.rfcPN = ft
  rintro e w5 ⟨rfl, hq⟩
  clear c0 c1 c2 c3 c4 c5 c6 c7 c8
  have HC5 := hide (HC4.out.below hq)
  have E5 := E4.below hq
  have HP5 := hide (HP4.out.below hq)
  have HQ5 := hide (HQ4.out.below hq)
  have b5 := b4.trans (Below.mono hq b4.size)
  clear hq HC4 E4 b4 HP4 HQ4
  cases ft
  · go_wp2_with fail
    go_ret
    exact ⟨rfl, b5⟩
  obtain ⟨c0, c1, c2, c3, c4, c5, c6, c7, c8⟩ := HC5.out
  have hd : Below w5.heap.size w5 w5.drew := (Below.refl _ _).drew
  have HI := hide ((LawI.mk E5 b5).step hd)
  have HB := hide (HP5.out.below hd)
  have HP := hide (HQ5.out.below hd)
  have HK : Hid True := trivial
  have hcb := bytes_back ao cap l
  clear E5 b5 HC5 HP5 HQ5 hd
  go_wp2_with fail
  go_region_held_law (fun w' => w'.cell? ⟨w.heap.size, 0, none⟩ = some (.int .i64 (Y : Int)) ∧ w'.cell? ⟨w.heap.size, 1, none⟩ = some (.int .i64 (M : Int)) ∧ w'.cell? ⟨w.heap.size, 2, none⟩ = some (.int .i64 (D : Int)) ∧ w'.cell? ⟨w.heap.size, 3, none⟩ = some (.int .i64 (Hh : Int)) ∧ w'.cell? ⟨w.heap.size, 4, none⟩ = some (.int .i64 (Mi : Int)) ∧ w'.cell? ⟨w.heap.size, 5, none⟩ = some (.int .i64 (S : Int)) ∧ w'.cell? ⟨w.heap.size, 6, none⟩ = some (.int .i64 (Ns : Int)) ∧ w'.cell? ⟨w.heap.size, 7, none⟩ = some (.string ⟨name.toArray⟩) ∧ w'.cell? ⟨w.heap.size, 8, none⟩ = some (.int .i64 off) ∧ Hid (LawI w w') ∧ Hid (PB w' ao l))
    ((((try dsimp only); (repeat' apply And.intro); all_goals (first | exact HI | exact HB | (go_split_ands; exact HK.out _ _ ‹_›) | go_keep))))
    (first
      | (go_at_call 34; (refine (HF1.out _ HB.out).mono ?_; clear HF1); rintro e w6 ⟨g, o, c, rfl, hrow, hq⟩; have HKx := keepC hq; have HIx := hide (HI.out.step hq); have HBx := hide (HB.out.below hq); have HPx := hide (HP.out.below hq); clear HI HK HB HP; have HK := HKx; have HI := HIx; have HB := HBx; have HP := HPx; clear HKx HIx HBx HPx; have HROW := hide hrow; have hcv := row_back _ hrow; rw [List.length_append] at hcv; clear hq hrow)
      | (go_at_call 31; (refine (HF2.out _ _ _ HP.out).mono ?_; clear HF2); rintro e w7 ⟨rfl, hq⟩; (have HROWx := hide (RowAt.below' HROW.out hq); have hcv := row_back _ HROWx.out; rw [List.length_append] at hcv; have HROW := HROWx); have HKx := keepC hq; have HIx := hide (HI.out.step hq); have HBx := hide (HB.out.below hq); have HPx := hide (HP.out.below hq); clear HI HK HB HP; have HK := HKx; have HI := HIx; have HB := HBx; have HP := HPx; clear HKx HIx HBx HPx; clear hq)
      | (go_at_call 17; refine (HW.out _ HI.out.std).mono ?_; rintro e w8 ⟨rfl, hq⟩; (have HROWx := hide (RowAt.below' HROW.out hq); have hcv := row_back _ HROWx.out; rw [List.length_append] at hcv; have HROW := HROWx); have HKx := keepC hq; have HIx := hide (HI.out.step hq); have HBx := hide (HB.out.below hq); have HPx := hide (HP.out.below hq); clear HI HK HB HP; have HK := HKx; have HI := HIx; have HB := HBx; have HP := HPx; clear HKx HIx HBx HPx; clear hq))
  all_goals
    go_wp2_with fail
    go_ret
    exact ⟨rfl, HI.out.bel⟩

set_option maxHeartbeats 2000000 in
theorem law_FnExactRFC3339 (y m d h mi s ns : Int) (name : List UInt8) (off : Int) (ao : Option Addr) (cap : Nat) (l : List UInt8) (nn : Bool) (hl : name.length ≤ 9223372036854775807) (ho : -9223372036854775808 ≤ off ∧ off ≤ 9223372036854775807) (w : World) (hP : PB w ao l) (hlb : l.length ≤ 9223372036854775807) (E : HStd w) :
    Calls Tryd.prog 13 #[civilV y m d h mi s ns name off, .slice ao l.length cap, .bool nn] w fun e w' => e = .returned (.bool true) ∧ Below w.heap.size w w' := by
  have hz := fun w => zzFits3_any y m d h mi s ns name off w
  generalize hfit : decide (name.length ≤ 2147483647) = fit at hz
  have b0 := (Below.refl w.heap.size w).alloc (Nat.le_refl _) (Obj.cells #[.int .i64 y, .int .i64 m, .int .i64 d, .int .i64 h, .int .i64 mi, .int .i64 s, .int .i64 ns, .string ⟨name.toArray⟩, .int .i64 off] 25)
  have HPF := hide (fun w => RFC3339_pieces w)
  have HPN := hide (fun w => RFC3339Nano_pieces w)
  cases fit
  · have HZ := hide hz
    clear hz hfit
    unfold civilV at *
    go_enter Tryd.func13, Tryd.ntmps13
    go_wp2_with fail
    refine (HZ.out _).mono ?_
    rintro e w1 ⟨rfl, hq⟩
    go_wp2_with fail
    go_ret
    exact ⟨rfl, b0.trans (hq.mono (by simp))⟩
  by_cases hbig : (2147483647 : Int) < l.length
  · have HZ := hide hz
    clear hz hfit
    unfold civilV at *
    go_enter Tryd.func13, Tryd.ntmps13
    go_wp2_with fail
    refine (HZ.out _).mono ?_
    rintro e w1 ⟨rfl, hq⟩
    go_wp2_with fail
    go_ret
    exact ⟨rfl, b0.trans (hq.mono (by simp))⟩
  have hl2 : name.length ≤ 2147483647 := by simpa using hfit
  have hk := fun w => civilOk_any y m d h mi s ns name (by omega) off w
  by_cases hmb : (1048576 : Int) < l.length
  · have HZ := hide hz
    clear hz hfit hk
    unfold civilV at *
    cases nn
    · go_enter Tryd.func13, Tryd.ntmps13
      go_wp2_with fail
      refine (HZ.out _).mono ?_
      rintro e w1 ⟨rfl, hq⟩
      have b1 := b0.trans (hq.mono (by simp))
      clear hq b0
      go_wp2_with fail
      refine (HPF.out _).mono ?_
      rintro e w2 ⟨pb, rfl, hpc, hq⟩
      have b2 := b1.trans (hq.mono b1.size)
      clear hq b1 hpc
      go_wp2_with fail
      go_ret
      exact ⟨rfl, b2⟩
    · go_enter Tryd.func13, Tryd.ntmps13
      go_wp2_with fail
      refine (HZ.out _).mono ?_
      rintro e w1 ⟨rfl, hq⟩
      have b1 := b0.trans (hq.mono (by simp))
      clear hq b0
      go_wp2_with fail
      refine (HPF.out _).mono ?_
      rintro e w2 ⟨pb, rfl, hpc, hq⟩
      have b2 := b1.trans (hq.mono b1.size)
      clear hq b1 hpc
      go_wp2_with fail
      refine (HPN.out _).mono ?_
      rintro e w3 ⟨pb2, rfl, hpc, hq⟩
      have b3 := b2.trans (hq.mono b2.size)
      clear hq b2 hpc
      go_wp2_with fail
      go_ret
      exact ⟨rfl, b3⟩
  generalize hok : Fs.civilOk y m d h mi s ns name off = ok at hk
  cases ok
  · have HZ := hide hz
    have HKO := hide hk
    clear hz hfit hk hok
    have C0 := hide (CCell.new w y m d h mi s ns name off)
    unfold civilV at *
    cases nn
    · go_enter Tryd.func13, Tryd.ntmps13
      go_wp2_with fail
      refine (HZ.out _).mono ?_
      rintro e w1 ⟨rfl, hq⟩
      have b1 := b0.trans (hq.mono (by simp))
      have C1 := hide (C0.out.below hq)
      clear hq b0 C0
      go_wp2_with fail
      refine (HPF.out _).mono ?_
      rintro e w2 ⟨pb, rfl, hpc, hq⟩
      have b2 := b1.trans (hq.mono b1.size)
      obtain ⟨c0, c1, c2, c3, c4, c5, c6, c7, c8⟩ := C1.out.below hq
      have hs2 := b2.size
      clear hq b1 hpc C1
      go_wp2_with fail
      refine (HKO.out _).mono ?_
      rintro e w3 ⟨rfl, hq⟩
      clear c0 c1 c2 c3 c4 c5 c6 c7 c8
      go_wp2_with fail
      go_ret
      exact ⟨rfl, b2.trans (hq.mono hs2)⟩
    · go_enter Tryd.func13, Tryd.ntmps13
      go_wp2_with fail
      refine (HZ.out _).mono ?_
      rintro e w1 ⟨rfl, hq⟩
      have b1 := b0.trans (hq.mono (by simp))
      have C1 := hide (C0.out.below hq)
      clear hq b0 C0
      go_wp2_with fail
      refine (HPF.out _).mono ?_
      rintro e w2 ⟨pb, rfl, hpc, hq⟩
      have b2 := b1.trans (hq.mono b1.size)
      have C2 := hide (C1.out.below hq)
      clear hq b1 hpc C1
      go_wp2_with fail
      refine (HPN.out _).mono ?_
      rintro e w3 ⟨pb2, rfl, hpc, hq⟩
      have b3 := b2.trans (hq.mono b2.size)
      obtain ⟨c0, c1, c2, c3, c4, c5, c6, c7, c8⟩ := C2.out.below hq
      have hs3 := b3.size
      clear hq b2 hpc C2
      go_wp2_with fail
      refine (HKO.out _).mono ?_
      rintro e w4 ⟨rfl, hq⟩
      clear c0 c1 c2 c3 c4 c5 c6 c7 c8
      go_wp2_with fail
      go_ret
      exact ⟨rfl, b3.trans (hq.mono hs3)⟩
  · obtain ⟨Y, M, D, Hh, Mi, S, Ns, CF⟩ := civF hok
    obtain ⟨rfl, rfl, rfl, rfl, rfl, rfl, rfl⟩ := CF.eqs
    cases nn
    · exact told_RFC_false CF ao cap l (by omega) w hP E
    · exact told_RFC_true CF ao cap l (by omega) w hP E
end Go.Proofs.YtjkfjlifcilejaaDoor
