/-
  THE LAW FnFormatMinute: its walk: it returns true at every input (printed by wip/py/gen_laws_fmt.py).
-/
import Derived.Test.YtjkfjlifcilejaaDoorU5
namespace Go.Proofs.YtjkfjlifcilejaaDoor
open Go.RowKit
set_option linter.unusedVariables false
set_option linter.unusedSimpArgs false
attribute [local go_sem] ByteArray.extract_mk get_mk ByteArray.toList_mk ByteArray.mk_append_mk take_drop_len

set_option maxRecDepth 100000 in
set_option maxHeartbeats 4000000 in
theorem told_FnFormatMinute {name : List UInt8} {off : Int} {Y M D Hh Mi S Ns : Nat} (CF : CivF Y M D Hh Mi S Ns name off Y M D Hh Mi S Ns) (w : World) (E : HStd w) :
    Calls Tryd.prog 5 #[civilV (Y : Int) (M : Int) (D : Int) (Hh : Int) (Mi : Int) (S : Int) (Ns : Int) name off] w fun e w' => e = .returned (.bool true) ∧ Below w.heap.size w w' := by
  have hfit : decide (name.length ≤ 2147483647) = true := by have := CF.n1; simp; omega
  have hz := fun w => zzFits3_any (Y : Int) (M : Int) (D : Int) (Hh : Int) (Mi : Int) (S : Int) (Ns : Int) name off w
  have hk := fun w => civilOk_any (Y : Int) (M : Int) (D : Int) (Hh : Int) (Mi : Int) (S : Int) (Ns : Int) name (by have := CF.n1; omega) off w
  rw [hfit] at hz
  rw [CF.ok] at hk
  have HZ := hide hz
  have HKO := hide hk
  have HW := hide writes_any
  clear hfit hz hk
  have y9 := CF.y9
  have d31 := CF.date.d31
  have m12 := CF.date.m2
  obtain ⟨h23, mi59, s59, ns9⟩ := CF.clock
  have o1 := CF.o1
  have o2 := CF.o2
  obtain ⟨T1, hT1⟩ : ∃ T : List UInt8, T = Fs.dg 1 Mi := ⟨_, rfl⟩
  obtain ⟨T2, hT2⟩ : ∃ T : List UInt8, T = Fs.dg 2 Mi := ⟨_, rfl⟩
  obtain ⟨T3, hT3⟩ : ∃ T : List UInt8, T = Fs.dg 1 S := ⟨_, rfl⟩
  obtain ⟨T4, hT4⟩ : ∃ T : List UInt8, T = Fs.dg 2 S := ⟨_, rfl⟩
  have HF1 : Hid (∀ w, HStd w → Calls Tryd.prog 16 #[civilV (Y : Int) (M : Int) (D : Int) (Hh : Int) (Mi : Int) (S : Int) (Ns : Int) name off, .string ⟨#[52]⟩] w fun e w' => e = .returned (.string ⟨T1.toArray⟩) ∧ Below w.heap.size w w') := by
    show ∀ w, _
    intro w E
    have hx := Format_any CF [52] (by decide) w E
    have hf : Fs.fmt (tmOf Y M D Hh Mi S Ns name off) [52] = T1 := by
      exact (Fs.fmt_kind (tmOf Y M D Hh Mi S Ns name off) 17 (by decide) (by decide) (by decide)).trans (by rw [hT1]; exact Fs.dg_zero_one Mi)
    rw [hf] at hx
    exact hx
  have HF2 : Hid (∀ w, Calls Tryd.prog 18 #[.int .i64 (Mi : Int), .int .i64 1] w fun e w' => e = .returned (.string ⟨T1.toArray⟩) ∧ Below w.heap.size w w') := by
    show ∀ w, _
    intro w
    have hx := Digits_any Mi 1 (by omega) (by omega) w
    rw [← hT1] at hx
    exact hx
  have HF3 : Hid (∀ w, HStd w → Calls Tryd.prog 16 #[civilV (Y : Int) (M : Int) (D : Int) (Hh : Int) (Mi : Int) (S : Int) (Ns : Int) name off, .string ⟨#[48, 52]⟩] w fun e w' => e = .returned (.string ⟨T2.toArray⟩) ∧ Below w.heap.size w w') := by
    show ∀ w, _
    intro w E
    have hx := Format_any CF [48, 52] (by decide) w E
    have hf : Fs.fmt (tmOf Y M D Hh Mi S Ns name off) [48, 52] = T2 := by
      exact (Fs.fmt_kind (tmOf Y M D Hh Mi S Ns name off) 18 (by decide) (by decide) (by decide)).trans (by rw [hT2]; rfl)
    rw [hf] at hx
    exact hx
  have HF4 : Hid (∀ w, Calls Tryd.prog 18 #[.int .i64 (Mi : Int), .int .i64 2] w fun e w' => e = .returned (.string ⟨T2.toArray⟩) ∧ Below w.heap.size w w') := by
    show ∀ w, _
    intro w
    have hx := Digits_any Mi 2 (by omega) (by omega) w
    rw [← hT2] at hx
    exact hx
  have HF5 : Hid (∀ w, HStd w → Calls Tryd.prog 16 #[civilV (Y : Int) (M : Int) (D : Int) (Hh : Int) (Mi : Int) (S : Int) (Ns : Int) name off, .string ⟨#[53]⟩] w fun e w' => e = .returned (.string ⟨T3.toArray⟩) ∧ Below w.heap.size w w') := by
    show ∀ w, _
    intro w E
    have hx := Format_any CF [53] (by decide) w E
    have hf : Fs.fmt (tmOf Y M D Hh Mi S Ns name off) [53] = T3 := by
      exact (Fs.fmt_kind (tmOf Y M D Hh Mi S Ns name off) 19 (by decide) (by decide) (by decide)).trans (by rw [hT3]; exact Fs.dg_zero_one S)
    rw [hf] at hx
    exact hx
  have HF6 : Hid (∀ w, Calls Tryd.prog 18 #[.int .i64 (S : Int), .int .i64 1] w fun e w' => e = .returned (.string ⟨T3.toArray⟩) ∧ Below w.heap.size w w') := by
    show ∀ w, _
    intro w
    have hx := Digits_any S 1 (by omega) (by omega) w
    rw [← hT3] at hx
    exact hx
  have HF7 : Hid (∀ w, HStd w → Calls Tryd.prog 16 #[civilV (Y : Int) (M : Int) (D : Int) (Hh : Int) (Mi : Int) (S : Int) (Ns : Int) name off, .string ⟨#[48, 53]⟩] w fun e w' => e = .returned (.string ⟨T4.toArray⟩) ∧ Below w.heap.size w w') := by
    show ∀ w, _
    intro w E
    have hx := Format_any CF [48, 53] (by decide) w E
    have hf : Fs.fmt (tmOf Y M D Hh Mi S Ns name off) [48, 53] = T4 := by
      exact (Fs.fmt_kind (tmOf Y M D Hh Mi S Ns name off) 20 (by decide) (by decide) (by decide)).trans (by rw [hT4]; rfl)
    rw [hf] at hx
    exact hx
  have HF8 : Hid (∀ w, Calls Tryd.prog 18 #[.int .i64 (S : Int), .int .i64 2] w fun e w' => e = .returned (.string ⟨T4.toArray⟩) ∧ Below w.heap.size w w') := by
    show ∀ w, _
    intro w
    have hx := Digits_any S 2 (by omega) (by omega) w
    rw [← hT4] at hx
    exact hx
  clear CF
  clear y9 d31 m12 h23 mi59 s59 ns9 o1 o2
  have b0 := (Below.refl w.heap.size w).alloc (Nat.le_refl _) (Obj.cells #[.int .i64 (Y : Int), .int .i64 (M : Int), .int .i64 (D : Int), .int .i64 (Hh : Int), .int .i64 (Mi : Int), .int .i64 (S : Int), .int .i64 (Ns : Int), .string ⟨name.toArray⟩, .int .i64 off] 25)
  have C0 := CCell.new w (Y : Int) (M : Int) (D : Int) (Hh : Int) (Mi : Int) (S : Int) (Ns : Int) name off
  have E0 := E.below ((Below.refl w.heap.size w).alloc (Nat.le_refl _) (Obj.cells #[.int .i64 (Y : Int), .int .i64 (M : Int), .int .i64 (D : Int), .int .i64 (Hh : Int), .int .i64 (Mi : Int), .int .i64 (S : Int), .int .i64 (Ns : Int), .string ⟨name.toArray⟩, .int .i64 off] 25))
  have HC0 := hide C0
  clear C0
  unfold civilV at *
  go_enter Tryd.func5, Tryd.ntmps5
  go_wp2_with fail
  refine (HZ.out _).mono ?_
  rintro e w1 ⟨rfl, hq⟩
  have HC1 := hide (HC0.out.below hq)
  have E1 := E0.below hq
  have b1 := b0.trans (Below.mono hq (by simp))
  clear hq HC0 E0 b0
  obtain ⟨c0, c1, c2, c3, c4, c5, c6, c7, c8⟩ := HC1.out
  go_wp2_with fail
  refine (HKO.out _).mono ?_
  rintro e w2 ⟨rfl, hq⟩
  clear c0 c1 c2 c3 c4 c5 c6 c7 c8
  have HC2 := hide (HC1.out.below hq)
  have E2 := E1.below hq
  have b2 := b1.trans (Below.mono hq b1.size)
  clear hq HC1 E1 b1
  obtain ⟨c0, c1, c2, c3, c4, c5, c6, c7, c8⟩ := HC2.out
  have HI := hide ((LawI.mk E2 b2).step ((Below.refl _ _).drew))
  have HK : Hid True := trivial
  clear E2 b2 HC2
  go_wp2_with fail
  go_region_held3 (fun w' => w'.cell? ⟨w.heap.size, 0, none⟩ = some (.int .i64 (Y : Int)) ∧ w'.cell? ⟨w.heap.size, 1, none⟩ = some (.int .i64 (M : Int)) ∧ w'.cell? ⟨w.heap.size, 2, none⟩ = some (.int .i64 (D : Int)) ∧ w'.cell? ⟨w.heap.size, 3, none⟩ = some (.int .i64 (Hh : Int)) ∧ w'.cell? ⟨w.heap.size, 4, none⟩ = some (.int .i64 (Mi : Int)) ∧ w'.cell? ⟨w.heap.size, 5, none⟩ = some (.int .i64 (S : Int)) ∧ w'.cell? ⟨w.heap.size, 6, none⟩ = some (.int .i64 (Ns : Int)) ∧ w'.cell? ⟨w.heap.size, 7, none⟩ = some (.string ⟨name.toArray⟩) ∧ w'.cell? ⟨w.heap.size, 8, none⟩ = some (.int .i64 off) ∧ Hid (LawI w w'))
    ((((try dsimp only); (repeat' apply And.intro); all_goals (first | exact HI | (go_split_ands; exact HK.out _ _ ‹_›) | go_keep))))
    (first
      | (go_at_call 16; (first | (refine (HF1.out _ HI.out.std).mono ?_; clear HF1) | (refine (HF3.out _ HI.out.std).mono ?_; clear HF3) | (refine (HF5.out _ HI.out.std).mono ?_; clear HF5) | (refine (HF7.out _ HI.out.std).mono ?_; clear HF7)); rintro e w3 ⟨rfl, hq⟩; have HKx := keepC hq; have HIx := hide (HI.out.step hq); clear HI HK; have HK := HKx; have HI := HIx; clear HKx HIx hq)
      | (go_at_call 18; (first | (refine (HF2.out _).mono ?_; clear HF2) | (refine (HF4.out _).mono ?_; clear HF4) | (refine (HF6.out _).mono ?_; clear HF6) | (refine (HF8.out _).mono ?_; clear HF8)); rintro e w3 ⟨rfl, hq⟩; have HKx := keepC hq; have HIx := hide (HI.out.step hq); clear HI HK; have HK := HKx; have HI := HIx; clear HKx HIx hq)
      | (go_at_call 17; refine (HW.out _ HI.out.std).mono ?_; rintro e w3 ⟨rfl, hq⟩; have HKx := keepC hq; have HIx := hide (HI.out.step hq); clear HI HK; have HK := HKx; have HI := HIx; clear HKx HIx hq))
  go_wp2_with fail
  go_ret
  exact ⟨rfl, HI.out.bel⟩

theorem law_FnFormatMinute (y m d h mi s ns : Int) (name : List UInt8) (off : Int) (hl : name.length ≤ 9223372036854775807) (ho : -9223372036854775808 ≤ off ∧ off ≤ 9223372036854775807) (w : World) (E : HStd w) :
    Calls Tryd.prog 5 #[civilV y m d h mi s ns name off] w fun e w' => e = .returned (.bool true) ∧ Below w.heap.size w w' := by
  have hz := fun w => zzFits3_any y m d h mi s ns name off w
  generalize hfit : decide (name.length ≤ 2147483647) = fit at hz
  have b0 := (Below.refl w.heap.size w).alloc (Nat.le_refl _) (Obj.cells #[.int .i64 y, .int .i64 m, .int .i64 d, .int .i64 h, .int .i64 mi, .int .i64 s, .int .i64 ns, .string ⟨name.toArray⟩, .int .i64 off] 25)
  cases fit
  · have HZ := hide hz
    clear hz hfit
    unfold civilV at *
    go_enter Tryd.func5, Tryd.ntmps5
    go_wp2_with fail
    refine (HZ.out _).mono ?_
    rintro e w1 ⟨rfl, hq⟩
    go_wp2_with fail
    go_ret
    exact ⟨rfl, b0.trans (hq.mono (by simp))⟩
  · have hl2 : name.length ≤ 2147483647 := by simpa using hfit
    have hk := fun w => civilOk_any y m d h mi s ns name (by omega) off w
    generalize hok : Fs.civilOk y m d h mi s ns name off = ok at hk
    cases ok
    · have HZ := hide hz
      have HK := hide hk
      clear hz hk hfit hok
      have C0 := CCell.new w y m d h mi s ns name off
      have HC0 := hide C0
      clear C0
      unfold civilV at *
      go_enter Tryd.func5, Tryd.ntmps5
      go_wp2_with fail
      refine (HZ.out _).mono ?_
      rintro e w1 ⟨rfl, hq⟩
      have b1 := b0.trans (hq.mono (by simp))
      have hs1 := b1.size
      obtain ⟨c0, c1, c2, c3, c4, c5, c6, c7, c8⟩ := HC0.out.below hq
      clear hq b0 HC0
      go_wp2_with fail
      refine (HK.out _).mono ?_
      rintro e w2 ⟨rfl, hq⟩
      clear c0 c1 c2 c3 c4 c5 c6 c7 c8
      go_wp2_with fail
      go_ret
      exact ⟨rfl, b1.trans (hq.mono hs1)⟩
    · obtain ⟨Y, M, D, Hh, Mi, S, Ns, CF⟩ := civF hok
      obtain ⟨rfl, rfl, rfl, rfl, rfl, rfl, rfl⟩ := CF.eqs
      exact told_FnFormatMinute CF w E
end Go.Proofs.YtjkfjlifcilejaaDoor
