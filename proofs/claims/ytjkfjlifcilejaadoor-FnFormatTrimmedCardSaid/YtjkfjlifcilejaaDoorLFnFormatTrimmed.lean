/-
  THE LAW FnFormatTrimmed: its walk: it returns true at every input.
-/
import Derived.Test.YtjkfjlifcilejaaDoorS2
import Derived.Test.YtjkfjlifcilejaaDoorWy
namespace Go.Proofs.YtjkfjlifcilejaaDoor
open Go.RowKit
set_option linter.unusedVariables false
set_option linter.unusedSimpArgs false
attribute [local go_sem] ByteArray.extract_mk get_mk ByteArray.toList_mk ByteArray.mk_append_mk take_drop_len

set_option maxRecDepth 100000 in
set_option maxHeartbeats 4000000 in
theorem told_FnFormatTrimmed {name : List UInt8} {off : Int} {Y M D Hh Mi S Ns : Nat} (CF : CivF Y M D Hh Mi S Ns name off Y M D Hh Mi S Ns) (n : Nat) (n1 : 1 ≤ n) (n9 : n ≤ 9) (cm : Bool) (w : World) (E : HStd w) :
    Calls Tryd.prog 8 #[.int .i64 (n : Nat), .bool cm, civilV (Y : Int) (M : Int) (D : Int) (Hh : Int) (Mi : Int) (S : Int) (Ns : Int) name off] w fun e w' => e = .returned (.bool true) ∧ Below w.heap.size w w' := by
  have hfit : decide (name.length ≤ 2147483647) = true := by have := CF.n1; simp; omega
  have hz := fun w => zzFits3_any (Y : Int) (M : Int) (D : Int) (Hh : Int) (Mi : Int) (S : Int) (Ns : Int) name off w
  have hk := fun w => civilOk_any (Y : Int) (M : Int) (D : Int) (Hh : Int) (Mi : Int) (S : Int) (Ns : Int) name (by have := CF.n1; omega) off w
  rw [hfit] at hz
  rw [CF.ok] at hk
  have HZ := hide hz
  have HKO := hide hk
  have HW := hide writes_any
  have hwi := fun w => within_any (n : Int) 1 9 w
  have hwt : Fs.within (n : Int) 1 9 = true := Fs.within_iff.2 ⟨by omega, by omega⟩
  rw [hwt] at hwi
  have HWI := hide hwi
  obtain ⟨m, hm, hm2⟩ : ∃ m, Fs.markB cm = [m] ∧ (m = 46 ∨ m = 44) := by cases cm <;> simp [Fs.markB]
  -- the layout, and what is told by it
  have hps : Fs.piecesOk [⟨20, [], 0, false⟩, ⟨34, [], (n : Int), cm⟩] = true := by
    have hw := hwt
    cases cm <;> simp [Fs.piecesOk, Fs.allFrom, Fs.stepOk, Fs.pieceOk, Fs.pairOk, Fs.touch, Fs.isFraction, Fs.isSecond, Fs.isISO, Fs.isZone, Fs.within, Fs.fractions] <;> omega
  have hfm := Fs.fmt_layout (tmOf Y M D Hh Mi S Ns name off) hps
  have hll : (Fs.layout [⟨20, [], 0, false⟩, ⟨34, [], (n : Int), cm⟩]).length ≤ 10000000 := by
    simp [Fs.layout, Fs.element, hm]; omega
  have hLA := fun (W : World) (ao : Option Addr) (H : PC W ao [⟨20, [], 0, false⟩, ⟨34, [], (n : Int), cm⟩]) => Layout_any ao 2 [⟨20, [], 0, false⟩, ⟨34, [], (n : Int), cm⟩] W H (by simp) (by
    intro p hp
    simp only [List.mem_cons, List.not_mem_nil, or_false] at hp
    rcases hp with rfl | rfl
    · decide
    · simp [Fs.pieceOk, Fs.isFraction]; exact hwt)
  have hwr : Fs.written (tmOf Y M D Hh Mi S Ns name off) [⟨20, [], 0, false⟩, ⟨34, [], (n : Int), cm⟩] = Fs.dg 2 S ++ Fs.nanoT true n m Ns := by
    have hc : Fs.codeOf ⟨34, [], (n : Int), cm⟩ = Fs.frac 35 n m := by
      cases cm
      · obtain rfl : m = 46 := by simpa [Fs.markB] using hm.symm
        simp [Fs.codeOf]
      · obtain rfl : m = 44 := by simpa [Fs.markB] using hm.symm
        simp [Fs.codeOf]
    have h1 : Fs.wr (tmOf Y M D Hh Mi S Ns name off) ⟨20, [], 0, false⟩ = Fs.dg 2 S := rfl
    have h2 : Fs.wr (tmOf Y M D Hh Mi S Ns name off) ⟨34, [], (n : Int), cm⟩ = Fs.nanoT true n m Ns := by
      show Fs.elem _ _ = _
      rw [hc]
      exact Fs.frac_elem _ 35 (by decide) n (by omega) m hm2
    simp [Fs.written, h1, h2]
  rw [hwr] at hfm
  generalize Fs.layout [⟨20, [], 0, false⟩, ⟨34, [], (n : Int), cm⟩] = L at hfm hll hLA
  have ns9 := CF.clock.ns1
  have s59 := CF.clock.s1
  have hl1 : (Fs.dg 2 S).length ≤ 9 := Fs.dg_le (by omega) (by omega)
  have hl2 : (Fs.nanoT true n m Ns).length ≤ 1000 := Fs.nanoT_le ns9
  have HF1 := hide (fun w E => by have hx := Format_any CF L hll w E; rw [hfm] at hx; exact hx)
  have HF2 := hide (fun w => Digits_any S 2 (by omega) (by omega) w)
  have HF3 := hide (fun w => Trimmed_any Ns n ns9 n1 n9 cm m hm w)
  generalize Fs.dg 2 S = T1 at HF1 HF2 hl1
  generalize Fs.nanoT true n m Ns = T2 at HF1 HF3 hl2
  have hL3 : T1.length + T2.length ≤ 9223372036854775807 := by omega
  have hL4 : T1.length + T2.length ≤ maxLen := by simp [maxLen]; omega
  have hL5 : ¬ (maxLen < T1.length + T2.length) := by simp [maxLen]; omega
  have hL6 : ¬ (9223372036854775807 < T1.length + T2.length) := by omega
  have HLA := hide hLA
  clear hfit hz hk hwi hwt hps hfm hll hLA hwr CF hm hm2 ns9 s59
  have b0 := (Below.refl w.heap.size w).alloc (Nat.le_refl _) (Obj.cells #[.int .i64 (Y : Int), .int .i64 (M : Int), .int .i64 (D : Int), .int .i64 (Hh : Int), .int .i64 (Mi : Int), .int .i64 (S : Int), .int .i64 (Ns : Int), .string ⟨name.toArray⟩, .int .i64 off] 25)
  have C0 := CCell.new w (Y : Int) (M : Int) (D : Int) (Hh : Int) (Mi : Int) (S : Int) (Ns : Int) name off
  have E0 := E.below ((Below.refl w.heap.size w).alloc (Nat.le_refl _) (Obj.cells #[.int .i64 (Y : Int), .int .i64 (M : Int), .int .i64 (D : Int), .int .i64 (Hh : Int), .int .i64 (Mi : Int), .int .i64 (S : Int), .int .i64 (Ns : Int), .string ⟨name.toArray⟩, .int .i64 off] 25))
  have HC0 := hide C0
  clear C0
  unfold civilV at *
  go_enter Tryd.func8, Tryd.ntmps8
  go_wp2_with fail
  refine (HZ.out _).mono ?_
  rintro e w1 ⟨rfl, hq⟩
  have HC1 := hide (HC0.out.below hq)
  have E1 := E0.below hq
  have b1 := b0.trans (Below.mono hq (by simp))
  clear hq HC0 E0 b0
  go_wp2_with fail
  refine (HWI.out _).mono ?_
  rintro e w2 ⟨rfl, hq⟩
  have HC2 := hide (HC1.out.below (hq.below _))
  have E2 := E1.below (hq.below _)
  have b2 := b1.trans (hq.below _)
  clear hq HC1 E1 b1
  obtain ⟨c0, c1, c2, c3, c4, c5, c6, c7, c8⟩ := HC2.out
  go_wp2_with fail
  refine (HKO.out _).mono ?_
  rintro e w3 ⟨rfl, hq⟩
  clear c0 c1 c2 c3 c4 c5 c6 c7 c8
  have HC3 := hide (HC2.out.below hq)
  have E3 := E2.below hq
  have b3 := b2.trans (Below.mono hq b2.size)
  clear hq HC2 E2 b2
  go_wp2_with fail
  refine (HLA.out _ _ (.inr ⟨w3.heap.size, 0, rfl, ?_⟩)).mono ?_
  · intro k hk
    match k, hk with
    | 0, _ => exact ⟨World.cell?_alloc_mark w3 _ _ _ 0, World.cell?_alloc_mark w3 _ _ _ 1, World.cell?_alloc_mark w3 _ _ _ 2, World.cell?_alloc_mark w3 _ _ _ 3⟩
    | 1, _ => exact ⟨World.cell?_alloc_mark w3 _ _ _ 4, World.cell?_alloc_mark w3 _ _ _ 5, World.cell?_alloc_mark w3 _ _ _ 6, World.cell?_alloc_mark w3 _ _ _ 7⟩
  rintro e w4 ⟨rfl, hq⟩
  have hqa : Below w3.heap.size w3 w4 := ((Below.refl w3.heap.size w3).alloc (Nat.le_refl _) _).trans (hq.mono (by simp))
  have HC4 := hide (HC3.out.below hqa)
  have E4 := E3.below hqa
  have b4 := b3.trans (hqa.mono b3.size)
  clear hq hqa HC3 E3 b3
  obtain ⟨c0, c1, c2, c3, c4, c5, c6, c7, c8⟩ := HC4.out
  have HI := hide ((LawI.mk E4 b4).step ((Below.refl _ _).drew))
  have HK : Hid True := trivial
  clear E4 b4 HC4
  go_wp2_with fail
  go_region_held3 (fun w' => w'.cell? ⟨w.heap.size, 0, none⟩ = some (.int .i64 (Y : Int)) ∧ w'.cell? ⟨w.heap.size, 1, none⟩ = some (.int .i64 (M : Int)) ∧ w'.cell? ⟨w.heap.size, 2, none⟩ = some (.int .i64 (D : Int)) ∧ w'.cell? ⟨w.heap.size, 3, none⟩ = some (.int .i64 (Hh : Int)) ∧ w'.cell? ⟨w.heap.size, 4, none⟩ = some (.int .i64 (Mi : Int)) ∧ w'.cell? ⟨w.heap.size, 5, none⟩ = some (.int .i64 (S : Int)) ∧ w'.cell? ⟨w.heap.size, 6, none⟩ = some (.int .i64 (Ns : Int)) ∧ w'.cell? ⟨w.heap.size, 7, none⟩ = some (.string ⟨name.toArray⟩) ∧ w'.cell? ⟨w.heap.size, 8, none⟩ = some (.int .i64 off) ∧ Hid (LawI w w'))
    ((((try dsimp only); (repeat' apply And.intro); all_goals (first | exact HI | (go_split_ands; exact HK.out _ _ ‹_›) | go_keep))))
    (first
      | (go_at_call 16; (refine (HF1.out _ HI.out.std).mono ?_; clear HF1); rintro e w3 ⟨rfl, hq⟩; have HKx := keepC hq; have HIx := hide (HI.out.step hq); clear HI HK; have HK := HKx; have HI := HIx; clear HKx HIx hq)
      | (go_at_call 18; (refine (HF2.out _).mono ?_; clear HF2); rintro e w3 ⟨rfl, hq⟩; have HKx := keepC hq; have HIx := hide (HI.out.step hq); clear HI HK; have HK := HKx; have HI := HIx; clear HKx HIx hq)
      | (go_at_call 25; (refine (HF3.out _).mono ?_; clear HF3); rintro e w3 ⟨rfl, hq⟩; have HKx := keepC hq; have HIx := hide (HI.out.step hq); clear HI HK; have HK := HKx; have HI := HIx; clear HKx HIx hq)
      | (go_at_call 17; refine (HW.out _ HI.out.std).mono ?_; rintro e w3 ⟨rfl, hq⟩; have HKx := keepC hq; have HIx := hide (HI.out.step hq); clear HI HK; have HK := HKx; have HI := HIx; clear HKx HIx hq))
  go_wp2_with fail
  go_ret
  exact ⟨rfl, HI.out.bel⟩

set_option maxHeartbeats 2000000 in
theorem law_FnFormatTrimmed (n : Int) (cm : Bool) (y m d h mi s ns : Int) (name : List UInt8) (off : Int) (hl : name.length ≤ 9223372036854775807) (ho : -9223372036854775808 ≤ off ∧ off ≤ 9223372036854775807) (w : World) (E : HStd w) :
    Calls Tryd.prog 8 #[.int .i64 n, .bool cm, civilV y m d h mi s ns name off] w fun e w' => e = .returned (.bool true) ∧ Below w.heap.size w w' := by
  have hz := fun w => zzFits3_any y m d h mi s ns name off w
  generalize hfit : decide (name.length ≤ 2147483647) = fit at hz
  have b0 := (Below.refl w.heap.size w).alloc (Nat.le_refl _) (Obj.cells #[.int .i64 y, .int .i64 m, .int .i64 d, .int .i64 h, .int .i64 mi, .int .i64 s, .int .i64 ns, .string ⟨name.toArray⟩, .int .i64 off] 25)
  cases fit
  · have HZ := hide hz
    clear hz hfit
    unfold civilV at *
    go_enter Tryd.func8, Tryd.ntmps8
    go_wp2_with fail
    refine (HZ.out _).mono ?_
    rintro e w1 ⟨rfl, hq⟩
    go_wp2_with fail
    go_ret
    exact ⟨rfl, b0.trans (hq.mono (by simp))⟩
  · have hl2 : name.length ≤ 2147483647 := by simpa using hfit
    have hk := fun w => civilOk_any y m d h mi s ns name (by omega) off w
    have hwi := fun w => within_any n 1 9 w
    generalize hwt : Fs.within n 1 9 = wt at hwi
    cases wt
    · have HZ := hide hz
      have HWI := hide hwi
      clear hz hk hfit hwi hwt
      unfold civilV at *
      go_enter Tryd.func8, Tryd.ntmps8
      go_wp2_with fail
      refine (HZ.out _).mono ?_
      rintro e w1 ⟨rfl, hq⟩
      have b1 := b0.trans (hq.mono (by simp))
      clear hq b0
      go_wp2_with fail
      refine (HWI.out _).mono ?_
      rintro e w2 ⟨rfl, hq⟩
      go_wp2_with fail
      go_ret
      exact ⟨rfl, b1.trans (hq.below _)⟩
    generalize hok : Fs.civilOk y m d h mi s ns name off = ok at hk
    cases ok
    · have HZ := hide hz
      have HK := hide hk
      have HWI := hide hwi
      clear hz hk hfit hok hwi hwt
      have C0 := CCell.new w y m d h mi s ns name off
      have HC0 := hide C0
      clear C0
      unfold civilV at *
      go_enter Tryd.func8, Tryd.ntmps8
      go_wp2_with fail
      refine (HZ.out _).mono ?_
      rintro e w1 ⟨rfl, hq⟩
      have b1 := b0.trans (hq.mono (by simp))
      have HC1 := hide (HC0.out.below hq)
      clear hq b0 HC0
      go_wp2_with fail
      refine (HWI.out _).mono ?_
      rintro e w2 ⟨rfl, hq⟩
      have b2 := b1.trans (hq.below _)
      have hs2 := b2.size
      obtain ⟨c0, c1, c2, c3, c4, c5, c6, c7, c8⟩ := HC1.out.below (hq.below _)
      clear hq b1 HC1
      go_wp2_with fail
      refine (HK.out _).mono ?_
      rintro e w3 ⟨rfl, hq⟩
      clear c0 c1 c2 c3 c4 c5 c6 c7 c8
      go_wp2_with fail
      go_ret
      exact ⟨rfl, b2.trans (hq.mono hs2)⟩
    · obtain ⟨Y, M, D, Hh, Mi, S, Ns, CF⟩ := civF hok
      obtain ⟨rfl, rfl, rfl, rfl, rfl, rfl, rfl⟩ := CF.eqs
      obtain ⟨n1, n9⟩ := Fs.within_iff.1 hwt
      obtain ⟨N, rfl⟩ : ∃ N : Nat, n = (N : Int) := ⟨n.toNat, by omega⟩
      exact told_FnFormatTrimmed CF N (by omega) (by omega) cm w E
end Go.Proofs.YtjkfjlifcilejaaDoor
