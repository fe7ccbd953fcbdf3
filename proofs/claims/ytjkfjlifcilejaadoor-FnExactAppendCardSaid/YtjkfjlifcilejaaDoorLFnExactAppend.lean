/-
  THE LAW FnExactAppend: its walk: it returns true at every input (printed by wip/py/gen_laws_bytes.py).
-/
import Derived.Test.YtjkfjlifcilejaaDoorSk
import Derived.Deep.RegionHeldLaw
namespace Go.Proofs.YtjkfjlifcilejaaDoor
open Go.RowKit
set_option linter.unusedVariables false
set_option linter.unusedSimpArgs false
attribute [local go_sem] ByteArray.extract_mk get_mk ByteArray.toList_mk ByteArray.mk_append_mk take_drop_len

set_option maxRecDepth 100000 in
set_option maxHeartbeats 4000000 in
theorem told_FnExactAppend {name : List UInt8} {off : Int} {Y M D Hh Mi S Ns : Nat} (CF : CivF Y M D Hh Mi S Ns name off Y M D Hh Mi S Ns) (ao : Option Addr) (cap : Nat) (l : List UInt8) (hl : l.length ≤ 1048576) (po : Option Addr) (pcap : Nat) (ps : List Fs.Piece) (hps : Fs.piecesOk ps = true) (hfi : Fs.fits ps = true) (w : World) (hP : PB w ao l) (hQ : PC w po ps) (E : HStd w) :
    Calls Tryd.prog 12 #[.slice ao l.length cap, .slice po ps.length pcap, civilV (Y : Int) (M : Int) (D : Int) (Hh : Int) (Mi : Int) (S : Int) (Ns : Int) name off] w fun e w' => e = .returned (.bool true) ∧ Below w.heap.size w w' := by
  have hfit : decide (name.length ≤ 2147483647) = true := by have := CF.n1; simp; omega
  have hz := fun w => zzFits3_any (Y : Int) (M : Int) (D : Int) (Hh : Int) (Mi : Int) (S : Int) (Ns : Int) name off w
  have hk := fun w => civilOk_any (Y : Int) (M : Int) (D : Int) (Hh : Int) (Mi : Int) (S : Int) (Ns : Int) name (by have := CF.n1; omega) off w
  rw [hfit] at hz
  rw [CF.ok] at hk
  have HZ := hide hz
  have HKO := hide hk
  have HW := hide writes_any
  obtain ⟨hok, hlen⟩ := pieces_of hps
  have htx : ∀ p ∈ ps, p.text.length ≤ 1000 := fun p hp => piece_text_le (hok p hp)
  have hfm := Fs.fmt_layout (tmOf Y M D Hh Mi S Ns name off) hps
  have hll := layout_len hok
  have hwl := written_len (t := tmOf Y M D Hh Mi S Ns name off) ps (fun p hp => wr_le CF (htx p hp))
  have HZF := hide (fun w H => by have hx := zzFits1_any po pcap ps w H (by omega); rw [hfi] at hx; exact hx)
  have HPO := hide (fun w H => by have hx := PiecesOk_any po pcap ps w H (by omega) (fun p hp => by have := htx p hp; omega); rw [hps] at hx; exact hx)
  have HFI := hide (fun w H => Fits_any (Y : Int) (M : Int) (D : Int) (Hh : Int) (Mi : Int) (S : Int) (Ns : Int) name off CF.o1 CF.o2 po pcap ps w H hlen)
  have HF0 := hide (fun w H => Layout_any po pcap ps w H hlen hok)
  have HF1 := hide (fun w E hP => by have hx := AppendF_any CF (Fs.layout ps) (by omega) ao cap l (by omega) w E hP; rw [hfm] at hx; exact hx)
  have HF2 := hide (fun w H => Written_any CF po pcap ps w H hlen (fun p hp => .inr (hok p hp)) htx)
  generalize Fs.written (tmOf Y M D Hh Mi S Ns name off) ps = R at HF1 HF2 hwl
  generalize Fs.layout ps = L at HF0 HF1
  have hL3 : l.length + R.length ≤ 9223372036854775807 := by omega
  have hL4 : l.length + R.length ≤ maxLen := by simp [maxLen]; omega
  have hL5 : ¬ (maxLen < l.length + R.length) := by simp [maxLen]; omega
  have hL6 : ¬ (9223372036854775807 < l.length + R.length) := by omega
  clear hfit hz hk CF hfm hok htx hps hfi hll hwl
  have b0 := (Below.refl w.heap.size w).alloc (Nat.le_refl _) (Obj.cells #[.int .i64 (Y : Int), .int .i64 (M : Int), .int .i64 (D : Int), .int .i64 (Hh : Int), .int .i64 (Mi : Int), .int .i64 (S : Int), .int .i64 (Ns : Int), .string ⟨name.toArray⟩, .int .i64 off] 25)
  have HC0 := hide (CCell.new w (Y : Int) (M : Int) (D : Int) (Hh : Int) (Mi : Int) (S : Int) (Ns : Int) name off)
  have HE0 := hide (E.below b0)
  have HP0 := hide (hP.below b0)
  have HQ0 := hide (hQ.below b0)
  clear E hP hQ
  unfold civilV at *
  go_enter Tryd.func12, Tryd.ntmps12
  go_wp2_with fail
  refine (HZF.out _ HQ0.out).mono ?_
  rintro e w1 ⟨rfl, hq⟩
  have HC1 := hide (HC0.out.below hq)
  have HE1 := hide (HE0.out.below hq)
  have HP1 := hide (HP0.out.below hq)
  have HQ1 := hide (HQ0.out.below hq)
  have b1 := b0.trans (Below.mono hq (by simp))
  clear hq HC0 HE0 b0 HP0 HQ0
  obtain ⟨c0, c1, c2, c3, c4, c5, c6, c7, c8⟩ := HC1.out
  go_wp2_with fail
  refine (HZ.out _).mono ?_
  rintro e w2 ⟨rfl, hq⟩
  clear c0 c1 c2 c3 c4 c5 c6 c7 c8
  have HC2 := hide (HC1.out.below hq)
  have HE2 := hide (HE1.out.below hq)
  have HP2 := hide (HP1.out.below hq)
  have HQ2 := hide (HQ1.out.below hq)
  have b2 := b1.trans (Below.mono hq b1.size)
  clear hq HC1 HE1 b1 HP1 HQ1
  obtain ⟨c0, c1, c2, c3, c4, c5, c6, c7, c8⟩ := HC2.out
  go_wp2_with fail
  refine (HPO.out _ HQ2.out).mono ?_
  rintro e w3 ⟨rfl, hq⟩
  clear c0 c1 c2 c3 c4 c5 c6 c7 c8
  have HC3 := hide (HC2.out.below hq)
  have HE3 := hide (HE2.out.below hq)
  have HP3 := hide (HP2.out.below hq)
  have HQ3 := hide (HQ2.out.below hq)
  have b3 := b2.trans (Below.mono hq b2.size)
  clear hq HC2 HE2 b2 HP2 HQ2
  obtain ⟨c0, c1, c2, c3, c4, c5, c6, c7, c8⟩ := HC3.out
  go_wp2_with fail
  refine (HKO.out _).mono ?_
  rintro e w4 ⟨rfl, hq⟩
  clear c0 c1 c2 c3 c4 c5 c6 c7 c8
  have HC4 := hide (HC3.out.below hq)
  have HE4 := hide (HE3.out.below hq)
  have HP4 := hide (HP3.out.below hq)
  have HQ4 := hide (HQ3.out.below hq)
  have b4 := b3.trans (Below.mono hq b3.size)
  clear hq HC3 HE3 b3 HP3 HQ3
  obtain ⟨c0, c1, c2, c3, c4, c5, c6, c7, c8⟩ := HC4.out
  go_wp2_with fail
  refine (HFI.out _ HQ4.out).mono ?_
  generalize Fs.fitsC off ps = ft
  rintro e w5 ⟨rfl, hq⟩
  clear c0 c1 c2 c3 c4 c5 c6 c7 c8
  have HC5 := hide (HC4.out.below hq)
  have HE5 := hide (HE4.out.below hq)
  have HP5 := hide (HP4.out.below hq)
  have HQ5 := hide (HQ4.out.below hq)
  have b5 := b4.trans (Below.mono hq b4.size)
  clear hq HC4 HE4 b4 HP4 HQ4
  obtain ⟨c0, c1, c2, c3, c4, c5, c6, c7, c8⟩ := HC5.out
  cases ft
  · go_wp2_with fail
    go_ret
    exact ⟨rfl, b5⟩
  have hd : Below w5.heap.size w5 w5.drew := (Below.refl _ _).drew
  have HI := hide ((LawI.mk HE5.out b5).step hd)
  have HB := hide (HP5.out.below hd)
  have HP := hide (HQ5.out.below hd)
  have HK : Hid True := trivial
  have hcb := bytes_back ao cap l
  clear HE5 b5 HC5 HP5 HQ5 hd
  go_wp2_with fail
  go_region_held_law (fun w' => w'.cell? ⟨w.heap.size, 0, none⟩ = some (.int .i64 (Y : Int)) ∧ w'.cell? ⟨w.heap.size, 1, none⟩ = some (.int .i64 (M : Int)) ∧ w'.cell? ⟨w.heap.size, 2, none⟩ = some (.int .i64 (D : Int)) ∧ w'.cell? ⟨w.heap.size, 3, none⟩ = some (.int .i64 (Hh : Int)) ∧ w'.cell? ⟨w.heap.size, 4, none⟩ = some (.int .i64 (Mi : Int)) ∧ w'.cell? ⟨w.heap.size, 5, none⟩ = some (.int .i64 (S : Int)) ∧ w'.cell? ⟨w.heap.size, 6, none⟩ = some (.int .i64 (Ns : Int)) ∧ w'.cell? ⟨w.heap.size, 7, none⟩ = some (.string ⟨name.toArray⟩) ∧ w'.cell? ⟨w.heap.size, 8, none⟩ = some (.int .i64 off) ∧ Hid (LawI w w') ∧ Hid (PB w' ao l))
    ((((try dsimp only); (repeat' apply And.intro); all_goals (first | exact HI | exact HB | (go_split_ands; exact HK.out _ _ ‹_›) | go_keep))))
    (first
      | (go_at_call 23; (refine (HF0.out _ HP.out).mono ?_; clear HF0); rintro e w7 ⟨rfl, hq⟩; have HKx := keepC hq; have HIx := hide (HI.out.step hq); have HBx := hide (HB.out.below hq); have HPx := hide (HP.out.below hq); clear HI HK HB HP; have HK := HKx; have HI := HIx; have HB := HBx; have HP := HPx; clear HKx HIx HBx HPx; clear hq)
      | (go_at_call 30; (refine (HF1.out _ HI.out.std HB.out).mono ?_; clear HF1); rintro e w6 ⟨g, o, c, rfl, hrow, hq⟩; have HKx := keepC hq; have HIx := hide (HI.out.step hq); have HBx := hide (HB.out.below hq); have HPx := hide (HP.out.below hq); clear HI HK HB HP; have HK := HKx; have HI := HIx; have HB := HBx; have HP := HPx; clear HKx HIx HBx HPx; have HROW := hide hrow; have hcv := row_back _ hrow; rw [List.length_append] at hcv; clear hq hrow)
      | (go_at_call 31; (refine (HF2.out _ HP.out).mono ?_; clear HF2); rintro e w7 ⟨rfl, hq⟩; (have HROWx := hide (RowAt.below' HROW.out hq); have hcv := row_back _ HROWx.out; rw [List.length_append] at hcv; have HROW := HROWx); have HKx := keepC hq; have HIx := hide (HI.out.step hq); have HBx := hide (HB.out.below hq); have HPx := hide (HP.out.below hq); clear HI HK HB HP; have HK := HKx; have HI := HIx; have HB := HBx; have HP := HPx; clear HKx HIx HBx HPx; clear hq)
      | (go_at_call 17; refine (HW.out _ HI.out.std).mono ?_; rintro e w8 ⟨rfl, hq⟩; (have HROWx := hide (RowAt.below' HROW.out hq); have hcv := row_back _ HROWx.out; rw [List.length_append] at hcv; have HROW := HROWx); have HKx := keepC hq; have HIx := hide (HI.out.step hq); have HBx := hide (HB.out.below hq); have HPx := hide (HP.out.below hq); clear HI HK HB HP; have HK := HKx; have HI := HIx; have HB := HBx; have HP := HPx; clear HKx HIx HBx HPx; clear hq))
  all_goals
    go_wp2_with fail
    go_ret
    exact ⟨rfl, HI.out.bel⟩

set_option maxRecDepth 100000 in
set_option maxHeartbeats 2000000 in
theorem law_FnExactAppend (ao : Option Addr) (cap : Nat) (l : List UInt8) (po : Option Addr) (pcap : Nat) (ps : List Fs.Piece) (y m d h mi s ns : Int) (name : List UInt8) (off : Int) (hl : name.length ≤ 9223372036854775807) (ho : -9223372036854775808 ≤ off ∧ off ≤ 9223372036854775807) (w : World) (hP : PB w ao l) (hlb : l.length ≤ 9223372036854775807) (hQ : PC w po ps) (hlp : ps.length ≤ 9223372036854775807) (E : HStd w) :
    Calls Tryd.prog 12 #[.slice ao l.length cap, .slice po ps.length pcap, civilV y m d h mi s ns name off] w fun e w' => e = .returned (.bool true) ∧ Below w.heap.size w w' := by
  by_cases hbig : (2147483647 : Int) < l.length
  · skip
    have b0 := (Below.refl w.heap.size w).alloc (Nat.le_refl _) (Obj.cells #[.int .i64 y, .int .i64 m, .int .i64 d, .int .i64 h, .int .i64 mi, .int .i64 s, .int .i64 ns, .string ⟨name.toArray⟩, .int .i64 off] 25)
    have HC0 := hide (CCell.new w y m d h mi s ns name off)
    have HE0 := hide (E.below b0)
    have HP0 := hide (hP.below b0)
    have HQ0 := hide (hQ.below b0)
    clear E hP hQ
    unfold civilV at *
    go_enter Tryd.func12, Tryd.ntmps12
    go_wp2_with fail
    go_ret
    exact ⟨rfl, b0⟩
  have hz1 := fun w H => zzFits1_any po pcap ps w H hlp
  generalize hfi : Fs.fits ps = fi at hz1
  have HZF := hide hz1
  clear hz1
  cases fi
  · clear hfi
    have b0 := (Below.refl w.heap.size w).alloc (Nat.le_refl _) (Obj.cells #[.int .i64 y, .int .i64 m, .int .i64 d, .int .i64 h, .int .i64 mi, .int .i64 s, .int .i64 ns, .string ⟨name.toArray⟩, .int .i64 off] 25)
    have HC0 := hide (CCell.new w y m d h mi s ns name off)
    have HE0 := hide (E.below b0)
    have HP0 := hide (hP.below b0)
    have HQ0 := hide (hQ.below b0)
    clear E hP hQ
    unfold civilV at *
    go_enter Tryd.func12, Tryd.ntmps12
    go_wp2_with fail
    refine (HZF.out _ HQ0.out).mono ?_
    rintro e w1 ⟨rfl, hq⟩
    have HC1 := hide (HC0.out.below hq)
    have HE1 := hide (HE0.out.below hq)
    have HP1 := hide (HP0.out.below hq)
    have HQ1 := hide (HQ0.out.below hq)
    have b1 := b0.trans (Below.mono hq (by simp))
    clear hq HC0 HE0 b0 HP0 HQ0
    obtain ⟨c0, c1, c2, c3, c4, c5, c6, c7, c8⟩ := HC1.out
    go_wp2_with fail
    go_ret
    exact ⟨rfl, b1⟩
  have hz := fun w => zzFits3_any y m d h mi s ns name off w
  generalize hfit : decide (name.length ≤ 2147483647) = fit at hz
  have HZ := hide hz
  clear hz
  cases fit
  · clear hfi hfit
    have b0 := (Below.refl w.heap.size w).alloc (Nat.le_refl _) (Obj.cells #[.int .i64 y, .int .i64 m, .int .i64 d, .int .i64 h, .int .i64 mi, .int .i64 s, .int .i64 ns, .string ⟨name.toArray⟩, .int .i64 off] 25)
    have HC0 := hide (CCell.new w y m d h mi s ns name off)
    have HE0 := hide (E.below b0)
    have HP0 := hide (hP.below b0)
    have HQ0 := hide (hQ.below b0)
    clear E hP hQ
    unfold civilV at *
    go_enter Tryd.func12, Tryd.ntmps12
    go_wp2_with fail
    refine (HZF.out _ HQ0.out).mono ?_
    rintro e w1 ⟨rfl, hq⟩
    have HC1 := hide (HC0.out.below hq)
    have HE1 := hide (HE0.out.below hq)
    have HP1 := hide (HP0.out.below hq)
    have HQ1 := hide (HQ0.out.below hq)
    have b1 := b0.trans (Below.mono hq (by simp))
    clear hq HC0 HE0 b0 HP0 HQ0
    obtain ⟨c0, c1, c2, c3, c4, c5, c6, c7, c8⟩ := HC1.out
    go_wp2_with fail
    refine (HZ.out _).mono ?_
    rintro e w2 ⟨rfl, hq⟩
    clear c0 c1 c2 c3 c4 c5 c6 c7 c8
    have HC2 := hide (HC1.out.below hq)
    have HE2 := hide (HE1.out.below hq)
    have HP2 := hide (HP1.out.below hq)
    have HQ2 := hide (HQ1.out.below hq)
    have b2 := b1.trans (Below.mono hq b1.size)
    clear hq HC1 HE1 b1 HP1 HQ1
    obtain ⟨c0, c1, c2, c3, c4, c5, c6, c7, c8⟩ := HC2.out
    go_wp2_with fail
    go_ret
    exact ⟨rfl, b2⟩
  by_cases hmb : (1048576 : Int) < l.length
  · clear hfi hfit
    have b0 := (Below.refl w.heap.size w).alloc (Nat.le_refl _) (Obj.cells #[.int .i64 y, .int .i64 m, .int .i64 d, .int .i64 h, .int .i64 mi, .int .i64 s, .int .i64 ns, .string ⟨name.toArray⟩, .int .i64 off] 25)
    have HC0 := hide (CCell.new w y m d h mi s ns name off)
    have HE0 := hide (E.below b0)
    have HP0 := hide (hP.below b0)
    have HQ0 := hide (hQ.below b0)
    clear E hP hQ
    unfold civilV at *
    go_enter Tryd.func12, Tryd.ntmps12
    go_wp2_with fail
    refine (HZF.out _ HQ0.out).mono ?_
    rintro e w1 ⟨rfl, hq⟩
    have HC1 := hide (HC0.out.below hq)
    have HE1 := hide (HE0.out.below hq)
    have HP1 := hide (HP0.out.below hq)
    have HQ1 := hide (HQ0.out.below hq)
    have b1 := b0.trans (Below.mono hq (by simp))
    clear hq HC0 HE0 b0 HP0 HQ0
    obtain ⟨c0, c1, c2, c3, c4, c5, c6, c7, c8⟩ := HC1.out
    go_wp2_with fail
    refine (HZ.out _).mono ?_
    rintro e w2 ⟨rfl, hq⟩
    clear c0 c1 c2 c3 c4 c5 c6 c7 c8
    have HC2 := hide (HC1.out.below hq)
    have HE2 := hide (HE1.out.below hq)
    have HP2 := hide (HP1.out.below hq)
    have HQ2 := hide (HQ1.out.below hq)
    have b2 := b1.trans (Below.mono hq b1.size)
    clear hq HC1 HE1 b1 HP1 HQ1
    obtain ⟨c0, c1, c2, c3, c4, c5, c6, c7, c8⟩ := HC2.out
    go_wp2_with fail
    go_ret
    exact ⟨rfl, b2⟩
  have hf2 : ps.length ≤ 2147483647 ∧ ∀ p ∈ ps, p.text.length ≤ 2147483647 := by
    simp only [Fs.fits, Bool.and_eq_true, decide_eq_true_eq, List.all_eq_true] at hfi
    exact hfi
  have hpo := fun w H => PiecesOk_any po pcap ps w H hf2.1 hf2.2
  generalize hps : Fs.piecesOk ps = pk at hpo
  have HPO := hide hpo
  clear hpo hf2
  cases pk
  · clear hfi hfit hps
    have b0 := (Below.refl w.heap.size w).alloc (Nat.le_refl _) (Obj.cells #[.int .i64 y, .int .i64 m, .int .i64 d, .int .i64 h, .int .i64 mi, .int .i64 s, .int .i64 ns, .string ⟨name.toArray⟩, .int .i64 off] 25)
    have HC0 := hide (CCell.new w y m d h mi s ns name off)
    have HE0 := hide (E.below b0)
    have HP0 := hide (hP.below b0)
    have HQ0 := hide (hQ.below b0)
    clear E hP hQ
    unfold civilV at *
    go_enter Tryd.func12, Tryd.ntmps12
    go_wp2_with fail
    refine (HZF.out _ HQ0.out).mono ?_
    rintro e w1 ⟨rfl, hq⟩
    have HC1 := hide (HC0.out.below hq)
    have HE1 := hide (HE0.out.below hq)
    have HP1 := hide (HP0.out.below hq)
    have HQ1 := hide (HQ0.out.below hq)
    have b1 := b0.trans (Below.mono hq (by simp))
    clear hq HC0 HE0 b0 HP0 HQ0
    obtain ⟨c0, c1, c2, c3, c4, c5, c6, c7, c8⟩ := HC1.out
    go_wp2_with fail
    refine (HZ.out _).mono ?_
    rintro e w2 ⟨rfl, hq⟩
    clear c0 c1 c2 c3 c4 c5 c6 c7 c8
    have HC2 := hide (HC1.out.below hq)
    have HE2 := hide (HE1.out.below hq)
    have HP2 := hide (HP1.out.below hq)
    have HQ2 := hide (HQ1.out.below hq)
    have b2 := b1.trans (Below.mono hq b1.size)
    clear hq HC1 HE1 b1 HP1 HQ1
    obtain ⟨c0, c1, c2, c3, c4, c5, c6, c7, c8⟩ := HC2.out
    go_wp2_with fail
    refine (HPO.out _ HQ2.out).mono ?_
    rintro e w3 ⟨rfl, hq⟩
    clear c0 c1 c2 c3 c4 c5 c6 c7 c8
    have HC3 := hide (HC2.out.below hq)
    have HE3 := hide (HE2.out.below hq)
    have HP3 := hide (HP2.out.below hq)
    have HQ3 := hide (HQ2.out.below hq)
    have b3 := b2.trans (Below.mono hq b2.size)
    clear hq HC2 HE2 b2 HP2 HQ2
    obtain ⟨c0, c1, c2, c3, c4, c5, c6, c7, c8⟩ := HC3.out
    go_wp2_with fail
    go_ret
    exact ⟨rfl, b3⟩
  have hl2 : name.length ≤ 2147483647 := by simpa using hfit
  have hk := fun w => civilOk_any y m d h mi s ns name (by omega) off w
  generalize hok : Fs.civilOk y m d h mi s ns name off = ok at hk
  have HKO := hide hk
  clear hk
  cases ok
  · clear hfi hfit hps hok
    have b0 := (Below.refl w.heap.size w).alloc (Nat.le_refl _) (Obj.cells #[.int .i64 y, .int .i64 m, .int .i64 d, .int .i64 h, .int .i64 mi, .int .i64 s, .int .i64 ns, .string ⟨name.toArray⟩, .int .i64 off] 25)
    have HC0 := hide (CCell.new w y m d h mi s ns name off)
    have HE0 := hide (E.below b0)
    have HP0 := hide (hP.below b0)
    have HQ0 := hide (hQ.below b0)
    clear E hP hQ
    unfold civilV at *
    go_enter Tryd.func12, Tryd.ntmps12
    go_wp2_with fail
    refine (HZF.out _ HQ0.out).mono ?_
    rintro e w1 ⟨rfl, hq⟩
    have HC1 := hide (HC0.out.below hq)
    have HE1 := hide (HE0.out.below hq)
    have HP1 := hide (HP0.out.below hq)
    have HQ1 := hide (HQ0.out.below hq)
    have b1 := b0.trans (Below.mono hq (by simp))
    clear hq HC0 HE0 b0 HP0 HQ0
    obtain ⟨c0, c1, c2, c3, c4, c5, c6, c7, c8⟩ := HC1.out
    go_wp2_with fail
    refine (HZ.out _).mono ?_
    rintro e w2 ⟨rfl, hq⟩
    clear c0 c1 c2 c3 c4 c5 c6 c7 c8
    have HC2 := hide (HC1.out.below hq)
    have HE2 := hide (HE1.out.below hq)
    have HP2 := hide (HP1.out.below hq)
    have HQ2 := hide (HQ1.out.below hq)
    have b2 := b1.trans (Below.mono hq b1.size)
    clear hq HC1 HE1 b1 HP1 HQ1
    obtain ⟨c0, c1, c2, c3, c4, c5, c6, c7, c8⟩ := HC2.out
    go_wp2_with fail
    refine (HPO.out _ HQ2.out).mono ?_
    rintro e w3 ⟨rfl, hq⟩
    clear c0 c1 c2 c3 c4 c5 c6 c7 c8
    have HC3 := hide (HC2.out.below hq)
    have HE3 := hide (HE2.out.below hq)
    have HP3 := hide (HP2.out.below hq)
    have HQ3 := hide (HQ2.out.below hq)
    have b3 := b2.trans (Below.mono hq b2.size)
    clear hq HC2 HE2 b2 HP2 HQ2
    obtain ⟨c0, c1, c2, c3, c4, c5, c6, c7, c8⟩ := HC3.out
    go_wp2_with fail
    refine (HKO.out _).mono ?_
    rintro e w4 ⟨rfl, hq⟩
    clear c0 c1 c2 c3 c4 c5 c6 c7 c8
    have HC4 := hide (HC3.out.below hq)
    have HE4 := hide (HE3.out.below hq)
    have HP4 := hide (HP3.out.below hq)
    have HQ4 := hide (HQ3.out.below hq)
    have b4 := b3.trans (Below.mono hq b3.size)
    clear hq HC3 HE3 b3 HP3 HQ3
    obtain ⟨c0, c1, c2, c3, c4, c5, c6, c7, c8⟩ := HC4.out
    go_wp2_with fail
    go_ret
    exact ⟨rfl, b4⟩
  · obtain ⟨Y, M, D, Hh, Mi, S, Ns, CF⟩ := civF hok
    obtain ⟨rfl, rfl, rfl, rfl, rfl, rfl, rfl⟩ := CF.eqs
    exact told_FnExactAppend CF ao cap l (by omega) po pcap ps hps hfi w hP hQ E
end Go.Proofs.YtjkfjlifcilejaaDoor
