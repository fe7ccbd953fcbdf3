/-
  THE LAW FnFormatSeam: its walk: it returns true at every input (printed by wip/py/gen_seam.py).
-/
import Derived.Test.YtjkfjlifcilejaaDoorSl
namespace Go.Proofs.YtjkfjlifcilejaaDoor
open Go.RowKit
set_option linter.unusedVariables false
set_option linter.unusedSimpArgs false
attribute [local go_sem] ByteArray.extract_mk get_mk ByteArray.toList_mk ByteArray.mk_append_mk take_drop_len

theorem PRow.below {w w' : World} {base : Nat} {v : Value} {ps : List Fs.Piece} (h : PRow w base v ps) (hb : Below w.heap.size w w') : PRow w' base v ps := by
  obtain ⟨⟨hl, ho⟩, hs⟩ := h
  refine ⟨⟨hl, ?_⟩, hs⟩
  rcases ho with ho | ⟨g, cap, cur, e, hbg, hg, r⟩
  · exact .inl ho
  · have hlt : g < w.heap.size := by
      rcases Nat.lt_or_ge g w.heap.size with h | h
      · exact h
      · rw [Array.getElem?_eq_none h] at hg; cases hg
    exact .inr ⟨g, cap, cur, e, hbg, (hb.block g hlt).trans hg, r⟩

set_option maxRecDepth 100000 in
set_option maxHeartbeats 8000000 in
theorem told_FnFormatSeam {name : List UInt8} {off : Int} {Y M D Hh Mi S Ns : Nat} (CF : CivF Y M D Hh Mi S Ns name off Y M D Hh Mi S Ns) (po : Option Addr) (pcap : Nat) (us : List Fs.Piece) (ha : Fs.piecesOk us = true) (tx : List UInt8) (qo : Option Addr) (qcap : Nat) (vs : List Fs.Piece) (hbs : Fs.piecesOk vs = true)
    (hall : Fs.piecesOk (us ++ [⟨0, tx, 0, false⟩] ++ vs) = true) (w : World) (hP : PC w po us) (hQ : PC w qo vs) (E : HStd w) :
    Calls Tryd.prog 7 #[.slice po us.length pcap, .string ⟨tx.toArray⟩, .slice qo vs.length qcap, civilV (Y : Int) (M : Int) (D : Int) (Hh : Int) (Mi : Int) (S : Int) (Ns : Int) name off] w fun e w' => e = .returned (.bool true) ∧ Below w.heap.size w w' := by
  have hfit : decide (name.length ≤ 2147483647) = true := by have := CF.n1; simp; omega
  have hz := fun w => zzFits3_any (Y : Int) (M : Int) (D : Int) (Hh : Int) (Mi : Int) (S : Int) (Ns : Int) name off w
  have hk := fun w => civilOk_any (Y : Int) (M : Int) (D : Int) (Hh : Int) (Mi : Int) (S : Int) (Ns : Int) name (by have := CF.n1; omega) off w
  rw [hfit] at hz
  rw [CF.ok] at hk
  have HZ := hide hz
  have HKO := hide hk
  have HW := hide writes_any
  obtain ⟨oka, lena⟩ := pieces_of ha
  obtain ⟨okb, lenb⟩ := pieces_of hbs
  obtain ⟨okall, lenall⟩ := pieces_of hall
  have hla0 : us.length + vs.length + 1 ≤ 300 := by omega
  have txa : ∀ p ∈ us, p.text.length ≤ 1000 := fun p hp => piece_text_le (oka p hp)
  have txb : ∀ p ∈ vs, p.text.length ≤ 1000 := fun p hp => piece_text_le (okb p hp)
  have hfitA : Fs.fits us = true := by
    simp only [Fs.fits, Bool.and_eq_true, decide_eq_true_eq, List.all_eq_true]
    exact ⟨by omega, fun p hp => by have := txa p hp; omega⟩
  have hfitB : Fs.fits vs = true := by
    simp only [Fs.fits, Bool.and_eq_true, decide_eq_true_eq, List.all_eq_true]
    exact ⟨by omega, fun p hp => by have := txb p hp; omega⟩
  have htok := okall ⟨0, tx, 0, false⟩ (by simp)
  have htl : tx.length ≤ 1000 := piece_text_le htok
  have fa := Fs.fmt_layout (tmOf Y M D Hh Mi S Ns name off) ha
  have fb := Fs.fmt_layout (tmOf Y M D Hh Mi S Ns name off) hbs
  have fall := Fs.fmt_layout (tmOf Y M D Hh Mi S Ns name off) hall
  have el : Fs.layout (us ++ [⟨0, tx, 0, false⟩] ++ vs) = Fs.layout us ++ tx ++ Fs.layout vs := by simp [Fs.layout, Fs.element]
  have ew : Fs.written (tmOf Y M D Hh Mi S Ns name off) (us ++ [⟨0, tx, 0, false⟩] ++ vs) = Fs.written (tmOf Y M D Hh Mi S Ns name off) us ++ tx ++ Fs.written (tmOf Y M D Hh Mi S Ns name off) vs := by simp [Fs.written, Fs.wr]
  rw [el, ew] at fall
  simp only [List.append_assoc] at fall
  have lla := layout_len oka
  have llb := layout_len okb
  have wla := written_len (t := tmOf Y M D Hh Mi S Ns name off) us (fun p hp => wr_le CF (txa p hp))
  have wlb := written_len (t := tmOf Y M D Hh Mi S Ns name off) vs (fun p hp => wr_le CF (txb p hp))
  have HZA := hide (fun w H => by have hx := zzFits1_any po pcap us w H (by omega); rw [hfitA] at hx; exact hx)
  have HZB := hide (fun w H => by have hx := zzFits1_any qo qcap vs w H (by omega); rw [hfitB] at hx; exact hx)
  have HPA := hide (fun w H => by have hx := PiecesOk_any po pcap us w H (by omega) (fun p hp => by have := txa p hp; omega); rw [ha] at hx; exact hx)
  have HPB := hide (fun w H => by have hx := PiecesOk_any qo qcap vs w H (by omega) (fun p hp => by have := txb p hp; omega); rw [hbs] at hx; exact hx)
  obtain ⟨n3, hn3⟩ : ∃ n, (us ++ [(⟨0, tx, 0, false⟩ : Fs.Piece)] ++ vs).length = n := ⟨_, rfl⟩
  have HPL := hide (fun w ao cap H => by have hx := PiecesOk_any ao cap (us ++ [⟨0, tx, 0, false⟩] ++ vs) w H (by omega) (fun p hp => by have := piece_text_le (okall p hp); omega); rw [hall, hn3] at hx; exact hx)
  have HLA := hide (fun w H => Layout_any po pcap us w H lena oka)
  have HLA2 := HLA
  have HLB := hide (fun w H => Layout_any qo qcap vs w H lenb okb)
  have HLB2 := HLB
  have HF1 := hide (fun w E => by have hx := Format_any CF (Fs.layout us ++ (tx ++ Fs.layout vs)) (by simp only [List.length_append]; omega) w E; rw [fall] at hx; exact hx)
  have HF2 := hide (fun w E => by have hx := Format_any CF (Fs.layout us) (by omega) w E; rw [fa] at hx; exact hx)
  have HF3 := hide (fun w E => by have hx := Format_any CF (Fs.layout vs) (by omega) w E; rw [fb] at hx; exact hx)
  generalize Fs.written (tmOf Y M D Hh Mi S Ns name off) us = RA at HF1 HF2 wla
  generalize Fs.written (tmOf Y M D Hh Mi S Ns name off) vs = RB at HF1 HF3 wlb
  generalize Fs.layout us = LA at HF1 HF2 HLA HLA2 lla
  generalize Fs.layout vs = LB at HF1 HF3 HLB HLB2 llb
  have s0a : LA.length + tx.length ≤ 9223372036854775807 := by omega
  have s0b : LA.length + tx.length ≤ maxLen := by simp [maxLen]; omega
  have s0c : ¬ (maxLen < LA.length + tx.length) := by simp [maxLen]; omega
  have s0d : ¬ (9223372036854775807 < LA.length + tx.length) := by omega
  have s1a : LA.length + tx.length + LB.length ≤ 9223372036854775807 := by omega
  have s1b : LA.length + tx.length + LB.length ≤ maxLen := by simp [maxLen]; omega
  have s1c : ¬ (maxLen < LA.length + tx.length + LB.length) := by simp [maxLen]; omega
  have s1d : ¬ (9223372036854775807 < LA.length + tx.length + LB.length) := by omega
  have s2a : LA.length + (tx.length + LB.length) ≤ 9223372036854775807 := by omega
  have s2b : LA.length + (tx.length + LB.length) ≤ maxLen := by simp [maxLen]; omega
  have s2c : ¬ (maxLen < LA.length + (tx.length + LB.length)) := by simp [maxLen]; omega
  have s2d : ¬ (9223372036854775807 < LA.length + (tx.length + LB.length)) := by omega
  have s3a : (LA ++ tx).length + LB.length ≤ 9223372036854775807 := by simp only [List.length_append]; omega
  have s3b : (LA ++ tx).length + LB.length ≤ maxLen := by simp only [List.length_append, maxLen]; omega
  have s3c : ¬ (maxLen < (LA ++ tx).length + LB.length) := by simp only [List.length_append, maxLen]; omega
  have s3d : ¬ (9223372036854775807 < (LA ++ tx).length + LB.length) := by simp only [List.length_append]; omega
  have s4a : RA.length + tx.length ≤ 9223372036854775807 := by omega
  have s4b : RA.length + tx.length ≤ maxLen := by simp [maxLen]; omega
  have s4c : ¬ (maxLen < RA.length + tx.length) := by simp [maxLen]; omega
  have s4d : ¬ (9223372036854775807 < RA.length + tx.length) := by omega
  have s5a : RA.length + tx.length + RB.length ≤ 9223372036854775807 := by omega
  have s5b : RA.length + tx.length + RB.length ≤ maxLen := by simp [maxLen]; omega
  have s5c : ¬ (maxLen < RA.length + tx.length + RB.length) := by simp [maxLen]; omega
  have s5d : ¬ (9223372036854775807 < RA.length + tx.length + RB.length) := by omega
  have s6a : RA.length + (tx.length + RB.length) ≤ 9223372036854775807 := by omega
  have s6b : RA.length + (tx.length + RB.length) ≤ maxLen := by simp [maxLen]; omega
  have s6c : ¬ (maxLen < RA.length + (tx.length + RB.length)) := by simp [maxLen]; omega
  have s6d : ¬ (9223372036854775807 < RA.length + (tx.length + RB.length)) := by omega
  have s7a : (RA ++ tx).length + RB.length ≤ 9223372036854775807 := by simp only [List.length_append]; omega
  have s7b : (RA ++ tx).length + RB.length ≤ maxLen := by simp only [List.length_append, maxLen]; omega
  have s7c : ¬ (maxLen < (RA ++ tx).length + RB.length) := by simp only [List.length_append, maxLen]; omega
  have s7d : ¬ (9223372036854775807 < (RA ++ tx).length + RB.length) := by simp only [List.length_append]; omega
  clear hfit hz hk CF oka okb okall txa txb hfitA hfitB htok fa fb fall el ew ha hbs hall
  have b0 := (Below.refl w.heap.size w).alloc (Nat.le_refl _) (Obj.cells #[.int .i64 (Y : Int), .int .i64 (M : Int), .int .i64 (D : Int), .int .i64 (Hh : Int), .int .i64 (Mi : Int), .int .i64 (S : Int), .int .i64 (Ns : Int), .string ⟨name.toArray⟩, .int .i64 off] 25)
  have HC0 := hide (CCell.new w (Y : Int) (M : Int) (D : Int) (Hh : Int) (Mi : Int) (S : Int) (Ns : Int) name off)
  have HE0 := hide (E.below b0)
  have HP0 := hide (hP.below b0)
  have HQ0 := hide (hQ.below b0)
  clear E hP hQ
  unfold civilV at *
  go_enter Tryd.func7, Tryd.ntmps7
  go_wp2_with fail
  refine (HZA.out _ HP0.out).mono ?_
  rintro e w1 ⟨rfl, hq⟩
  have HC1 := hide (HC0.out.below hq)
  have HE1 := hide (HE0.out.below hq)
  have HP1 := hide (HP0.out.below hq)
  have HQ1 := hide (HQ0.out.below hq)
  have b1 := b0.trans (Below.mono hq (by simp))
  clear hq HC0 HE0 b0 HP0 HQ0
  obtain ⟨c0, c1, c2, c3, c4, c5, c6, c7, c8⟩ := HC1.out
  go_wp2_with fail
  refine (HZB.out _ HQ1.out).mono ?_
  rintro e w2 ⟨rfl, hq⟩
  clear c0 c1 c2 c3 c4 c5 c6 c7 c8
  have HC2 := hide (HC1.out.below hq)
  have HE2 := hide (HE1.out.below hq)
  have HP2 := hide (HP1.out.below hq)
  have HQ2 := hide (HQ1.out.below hq)
  have b2 := b1.trans (Below.mono hq b1.size)
  clear hq HC1 HE1 b1 HP1 HQ1
  obtain ⟨c0, c1, c2, c3, c4, c5, c6, c7, c8⟩ := HC2.out
  go_wp2_with fail
  refine (HZ.out _).mono ?_
  rintro e w3 ⟨rfl, hq⟩
  clear c0 c1 c2 c3 c4 c5 c6 c7 c8
  have HC3 := hide (HC2.out.below hq)
  have HE3 := hide (HE2.out.below hq)
  have HP3 := hide (HP2.out.below hq)
  have HQ3 := hide (HQ2.out.below hq)
  have b3 := b2.trans (Below.mono hq b2.size)
  clear hq HC2 HE2 b2 HP2 HQ2
  obtain ⟨c0, c1, c2, c3, c4, c5, c6, c7, c8⟩ := HC3.out
  have hrow0 := PRow.blank w3 w3.heap.size (Nat.le_refl _)
  have ba : Below w3.heap.size w3 (w3.alloc (.cells #[] 34)) := (Below.refl _ _).alloc (Nat.le_refl _) _
  have hPa := HP3.out.below ba
  have HQa := HQ3
  have hla := hla0
  go_wp2_with (at_builtin; first
    | (refine wpList_append_pieces _ rfl (.tmp 28) (.tmp 29) rfl rfl hrow0 (by simp) po pcap us rfl hPa (by simp; omega) ?_; intro v1 wa hr1 hb1; rw [List.nil_append] at hr1; have bb := ba.trans hb1; have bn : Below wa.heap.size wa (wa.alloc (.cells #[.int .i64 0, .string ⟨tx.toArray⟩, .int .i64 0, .bool false] 34)) := (Below.refl _ _).alloc (Nat.le_refl _) _; have hr1n := hr1.below bn; have hsz1 := bb.size; clear hrow0 hPa)
    | (refine wpList_append_pieces _ rfl (.tmp 30) (.tmp 33) rfl rfl hr1n (by simp; omega) (some ⟨wa.heap.size, 0, none⟩) 1 [⟨0, tx, 0, false⟩] rfl (pc_new wa [⟨0, tx, 0, false⟩] 34) (by simp; omega) ?_; intro v2 wb hr2 hb2; have bc := (bb.trans (bn.mono hsz1)).trans hb2; have hqb := HQa.out.below bc; have hsz2 := bc.size; clear hr1n)
    | (refine wpList_append_pieces _ rfl (.tmp 34) (.tmp 35) rfl rfl hr2 hsz2 qo qcap vs rfl hqb (by simp; omega) ?_; intro v3 wc hr3 hb3; have bd := bc.trans hb3; clear hr2))
  obtain ⟨g3, cap3, rfl⟩ := hr3.ptr
  have hpall := hr3.pc
  rw [hn3]
  clear hr1 hb1 bb bn hsz1 hb2 bc hqb hsz2 hb3 ba HQa hr3
  have hq := bd
  have HA4 := hide hpall
  clear hpall bd
  clear c0 c1 c2 c3 c4 c5 c6 c7 c8
  have HC4 := hide (HC3.out.below hq)
  have HE4 := hide (HE3.out.below hq)
  have HP4 := hide (HP3.out.below hq)
  have HQ4 := hide (HQ3.out.below hq)
  have b4 := b3.trans (Below.mono hq b3.size)
  clear hq HC3 HE3 b3 HP3 HQ3
  refine (HPA.out _ HP4.out).mono ?_
  rintro e w5 ⟨rfl, hq⟩
  have HC5 := hide (HC4.out.below hq)
  have HE5 := hide (HE4.out.below hq)
  have HP5 := hide (HP4.out.below hq)
  have HQ5 := hide (HQ4.out.below hq)
  have HA5 := hide (HA4.out.below hq)
  have b5 := b4.trans (Below.mono hq b4.size)
  clear hq HC4 HE4 b4 HP4 HQ4 HA4
  go_wp2_with fail
  refine (HPB.out _ HQ5.out).mono ?_
  rintro e w6 ⟨rfl, hq⟩
  have HC6 := hide (HC5.out.below hq)
  have HE6 := hide (HE5.out.below hq)
  have HP6 := hide (HP5.out.below hq)
  have HQ6 := hide (HQ5.out.below hq)
  have HA6 := hide (HA5.out.below hq)
  have b6 := b5.trans (Below.mono hq b5.size)
  clear hq HC5 HE5 b5 HP5 HQ5 HA5
  go_wp2_with fail
  refine (HPL.out _ _ _ HA6.out).mono ?_
  rintro e w7 ⟨rfl, hq⟩
  have HC7 := hide (HC6.out.below hq)
  have HE7 := hide (HE6.out.below hq)
  have HP7 := hide (HP6.out.below hq)
  have HQ7 := hide (HQ6.out.below hq)
  have HA7 := hide (HA6.out.below hq)
  have b7 := b6.trans (Below.mono hq b6.size)
  clear hq HC6 HE6 b6 HP6 HQ6 HA6
  obtain ⟨c0, c1, c2, c3, c4, c5, c6, c7, c8⟩ := HC7.out
  go_wp2_with fail
  refine (HKO.out _).mono ?_
  rintro e w8 ⟨rfl, hq⟩
  clear c0 c1 c2 c3 c4 c5 c6 c7 c8
  have HC8 := hide (HC7.out.below hq)
  have HE8 := hide (HE7.out.below hq)
  have HP8 := hide (HP7.out.below hq)
  have HQ8 := hide (HQ7.out.below hq)
  have HA8 := hide (HA7.out.below hq)
  have b8 := b7.trans (Below.mono hq b7.size)
  clear hq HC7 HE7 b7 HP7 HQ7 HA7
  obtain ⟨c0, c1, c2, c3, c4, c5, c6, c7, c8⟩ := HC8.out
  have hd : Below w8.heap.size w8 w8.drew := (Below.refl _ _).drew
  have HI := hide ((LawI.mk HE8.out b8).step hd)
  have HB := hide (HP8.out.below hd)
  have HP := hide (HQ8.out.below hd)
  have HK : Hid True := trivial
  clear HE8 b8 HC8 HP8 HQ8 HA8 hd
  go_wp2_with fail
  go_region_held3 (fun w' => w'.cell? ⟨w.heap.size, 0, none⟩ = some (.int .i64 (Y : Int)) ∧ w'.cell? ⟨w.heap.size, 1, none⟩ = some (.int .i64 (M : Int)) ∧ w'.cell? ⟨w.heap.size, 2, none⟩ = some (.int .i64 (D : Int)) ∧ w'.cell? ⟨w.heap.size, 3, none⟩ = some (.int .i64 (Hh : Int)) ∧ w'.cell? ⟨w.heap.size, 4, none⟩ = some (.int .i64 (Mi : Int)) ∧ w'.cell? ⟨w.heap.size, 5, none⟩ = some (.int .i64 (S : Int)) ∧ w'.cell? ⟨w.heap.size, 6, none⟩ = some (.int .i64 (Ns : Int)) ∧ w'.cell? ⟨w.heap.size, 7, none⟩ = some (.string ⟨name.toArray⟩) ∧ w'.cell? ⟨w.heap.size, 8, none⟩ = some (.int .i64 off) ∧ Hid (LawI w w'))
    ((((try dsimp only); (repeat' apply And.intro); all_goals (first | exact HI | (go_split_ands; exact HK.out _ _ ‹_›) | go_keep))))
    (first
      | (go_at_call 23; (first | (refine (HLA.out _ HB.out).mono ?_; clear HLA) | (refine (HLB.out _ HP.out).mono ?_; clear HLB) | (refine (HLA2.out _ HB.out).mono ?_; clear HLA2) | (refine (HLB2.out _ HP.out).mono ?_; clear HLB2)); rintro e w7 ⟨rfl, hq⟩; have HKx := keepC hq; have HIx := hide (HI.out.step hq); have HBx := hide (HB.out.below hq); have HPx := hide (HP.out.below hq); clear HI HK HB HP; have HK := HKx; have HI := HIx; have HB := HBx; have HP := HPx; clear HKx HIx HBx HPx; clear hq)
      | (go_at_call 16; (first | (refine (HF1.out _ HI.out.std).mono ?_; clear HF1) | (refine (HF2.out _ HI.out.std).mono ?_; clear HF2) | (refine (HF3.out _ HI.out.std).mono ?_; clear HF3)); rintro e w6 ⟨rfl, hq⟩; have HKx := keepC hq; have HIx := hide (HI.out.step hq); have HBx := hide (HB.out.below hq); have HPx := hide (HP.out.below hq); clear HI HK HB HP; have HK := HKx; have HI := HIx; have HB := HBx; have HP := HPx; clear HKx HIx HBx HPx; clear hq)
      | (go_at_call 17; refine (HW.out _ HI.out.std).mono ?_; rintro e w8 ⟨rfl, hq⟩; have HKx := keepC hq; have HIx := hide (HI.out.step hq); have HBx := hide (HB.out.below hq); have HPx := hide (HP.out.below hq); clear HI HK HB HP; have HK := HKx; have HI := HIx; have HB := HBx; have HP := HPx; clear HKx HIx HBx HPx; clear hq))
  go_wp2_with fail
  go_ret
  exact ⟨rfl, HI.out.bel⟩

set_option maxRecDepth 100000 in
set_option maxHeartbeats 8000000 in
theorem law_FnFormatSeam (po : Option Addr) (pcap : Nat) (us : List Fs.Piece) (tx : List UInt8) (qo : Option Addr) (qcap : Nat) (vs : List Fs.Piece) (y m d h mi s ns : Int) (name : List UInt8) (off : Int) (htx : tx.length ≤ 9223372036854775807) (hl : name.length ≤ 9223372036854775807) (ho : -9223372036854775808 ≤ off ∧ off ≤ 9223372036854775807) (w : World) (hP : PC w po us) (hlp : us.length ≤ 9223372036854775807) (hQ : PC w qo vs) (hlq : vs.length ≤ 9223372036854775807) (E : HStd w) :
    Calls Tryd.prog 7 #[.slice po us.length pcap, .string ⟨tx.toArray⟩, .slice qo vs.length qcap, civilV y m d h mi s ns name off] w fun e w' => e = .returned (.bool true) ∧ Below w.heap.size w w' := by
  obtain ⟨n3, hn3⟩ : ∃ n, (us ++ [(⟨0, tx, 0, false⟩ : Fs.Piece)] ++ vs).length = n := ⟨_, rfl⟩
  have hz1 := fun w H => zzFits1_any po pcap us w H hlp
  generalize hfa : Fs.fits us = fa at hz1
  have HZA := hide hz1
  clear hz1
  cases fa
  · clear hfa
    have b0 := (Below.refl w.heap.size w).alloc (Nat.le_refl _) (Obj.cells #[.int .i64 y, .int .i64 m, .int .i64 d, .int .i64 h, .int .i64 mi, .int .i64 s, .int .i64 ns, .string ⟨name.toArray⟩, .int .i64 off] 25)
    have HC0 := hide (CCell.new w y m d h mi s ns name off)
    have HE0 := hide (E.below b0)
    have HP0 := hide (hP.below b0)
    have HQ0 := hide (hQ.below b0)
    clear E hP hQ
    unfold civilV at *
    go_enter Tryd.func7, Tryd.ntmps7
    go_wp2_with fail
    refine (HZA.out _ HP0.out).mono ?_
    rintro e w1 ⟨rfl, hq⟩
    have HC1 := hide (HC0.out.below hq)
    have HE1 := hide (HE0.out.below hq)
    have HP1 := hide (HP0.out.below hq)
    have HQ1 := hide (HQ0.out.below hq)
    have b1 := b0.trans (Below.mono hq (by simp))
    clear hq HC0 HE0 b0 HP0 HQ0
    obtain ⟨c0, c1, c2, c3, c4, c5, c6, c7, c8⟩ := HC1.out
    go_wp2_with fail
    go_ret
    exact ⟨rfl, b1⟩
  have hf1 : us.length ≤ 2147483647 ∧ ∀ p ∈ us, p.text.length ≤ 2147483647 := by
    simp only [Fs.fits, Bool.and_eq_true, decide_eq_true_eq, List.all_eq_true] at hfa
    exact hfa
  by_cases hbig : (2147483647 : Int) < tx.length
  · clear hfa hf1
    have b0 := (Below.refl w.heap.size w).alloc (Nat.le_refl _) (Obj.cells #[.int .i64 y, .int .i64 m, .int .i64 d, .int .i64 h, .int .i64 mi, .int .i64 s, .int .i64 ns, .string ⟨name.toArray⟩, .int .i64 off] 25)
    have HC0 := hide (CCell.new w y m d h mi s ns name off)
    have HE0 := hide (E.below b0)
    have HP0 := hide (hP.below b0)
    have HQ0 := hide (hQ.below b0)
    clear E hP hQ
    unfold civilV at *
    go_enter Tryd.func7, Tryd.ntmps7
    go_wp2_with fail
    refine (HZA.out _ HP0.out).mono ?_
    rintro e w1 ⟨rfl, hq⟩
    have HC1 := hide (HC0.out.below hq)
    have HE1 := hide (HE0.out.below hq)
    have HP1 := hide (HP0.out.below hq)
    have HQ1 := hide (HQ0.out.below hq)
    have b1 := b0.trans (Below.mono hq (by simp))
    clear hq HC0 HE0 b0 HP0 HQ0
    obtain ⟨c0, c1, c2, c3, c4, c5, c6, c7, c8⟩ := HC1.out
    go_wp2_with fail
    go_ret
    exact ⟨rfl, b1⟩
  have hz2 := fun w H => zzFits1_any qo qcap vs w H hlq
  generalize hfb : Fs.fits vs = fb at hz2
  have HZB := hide hz2
  clear hz2
  cases fb
  · clear hfa hf1 hfb
    have b0 := (Below.refl w.heap.size w).alloc (Nat.le_refl _) (Obj.cells #[.int .i64 y, .int .i64 m, .int .i64 d, .int .i64 h, .int .i64 mi, .int .i64 s, .int .i64 ns, .string ⟨name.toArray⟩, .int .i64 off] 25)
    have HC0 := hide (CCell.new w y m d h mi s ns name off)
    have HE0 := hide (E.below b0)
    have HP0 := hide (hP.below b0)
    have HQ0 := hide (hQ.below b0)
    clear E hP hQ
    unfold civilV at *
    go_enter Tryd.func7, Tryd.ntmps7
    go_wp2_with fail
    refine (HZA.out _ HP0.out).mono ?_
    rintro e w1 ⟨rfl, hq⟩
    have HC1 := hide (HC0.out.below hq)
    have HE1 := hide (HE0.out.below hq)
    have HP1 := hide (HP0.out.below hq)
    have HQ1 := hide (HQ0.out.below hq)
    have b1 := b0.trans (Below.mono hq (by simp))
    clear hq HC0 HE0 b0 HP0 HQ0
    obtain ⟨c0, c1, c2, c3, c4, c5, c6, c7, c8⟩ := HC1.out
    go_wp2_with fail
    refine (HZB.out _ HQ1.out).mono ?_
    rintro e w2 ⟨rfl, hq⟩
    clear c0 c1 c2 c3 c4 c5 c6 c7 c8
    have HC2 := hide (HC1.out.below hq)
    have HE2 := hide (HE1.out.below hq)
    have HP2 := hide (HP1.out.below hq)
    have HQ2 := hide (HQ1.out.below hq)
    have b2 := b1.trans (Below.mono hq b1.size)
    clear hq HC1 HE1 b1 HP1 HQ1
    obtain ⟨c0, c1, c2, c3, c4, c5, c6, c7, c8⟩ := HC2.out
    go_wp2_with fail
    go_ret
    exact ⟨rfl, b2⟩
  have hf2 : vs.length ≤ 2147483647 ∧ ∀ p ∈ vs, p.text.length ≤ 2147483647 := by
    simp only [Fs.fits, Bool.and_eq_true, decide_eq_true_eq, List.all_eq_true] at hfb
    exact hfb
  have hz := fun w => zzFits3_any y m d h mi s ns name off w
  generalize hfit : decide (name.length ≤ 2147483647) = fit at hz
  have HZ := hide hz
  clear hz
  cases fit
  · clear hfa hf1 hfb hf2 hfit
    have b0 := (Below.refl w.heap.size w).alloc (Nat.le_refl _) (Obj.cells #[.int .i64 y, .int .i64 m, .int .i64 d, .int .i64 h, .int .i64 mi, .int .i64 s, .int .i64 ns, .string ⟨name.toArray⟩, .int .i64 off] 25)
    have HC0 := hide (CCell.new w y m d h mi s ns name off)
    have HE0 := hide (E.below b0)
    have HP0 := hide (hP.below b0)
    have HQ0 := hide (hQ.below b0)
    clear E hP hQ
    unfold civilV at *
    go_enter Tryd.func7, Tryd.ntmps7
    go_wp2_with fail
    refine (HZA.out _ HP0.out).mono ?_
    rintro e w1 ⟨rfl, hq⟩
    have HC1 := hide (HC0.out.below hq)
    have HE1 := hide (HE0.out.below hq)
    have HP1 := hide (HP0.out.below hq)
    have HQ1 := hide (HQ0.out.below hq)
    have b1 := b0.trans (Below.mono hq (by simp))
    clear hq HC0 HE0 b0 HP0 HQ0
    obtain ⟨c0, c1, c2, c3, c4, c5, c6, c7, c8⟩ := HC1.out
    go_wp2_with fail
    refine (HZB.out _ HQ1.out).mono ?_
    rintro e w2 ⟨rfl, hq⟩
    clear c0 c1 c2 c3 c4 c5 c6 c7 c8
    have HC2 := hide (HC1.out.below hq)
    have HE2 := hide (HE1.out.below hq)
    have HP2 := hide (HP1.out.below hq)
    have HQ2 := hide (HQ1.out.below hq)
    have b2 := b1.trans (Below.mono hq b1.size)
    clear hq HC1 HE1 b1 HP1 HQ1
    obtain ⟨c0, c1, c2, c3, c4, c5, c6, c7, c8⟩ := HC2.out
    go_wp2_with fail
    refine (HZ.out _).mono ?_
    rintro e w3 ⟨rfl, hq⟩
    clear c0 c1 c2 c3 c4 c5 c6 c7 c8
    have HC3 := hide (HC2.out.below hq)
    have HE3 := hide (HE2.out.below hq)
    have HP3 := hide (HP2.out.below hq)
    have HQ3 := hide (HQ2.out.below hq)
    have b3 := b2.trans (Below.mono hq b2.size)
    clear hq HC2 HE2 b2 HP2 HQ2
    obtain ⟨c0, c1, c2, c3, c4, c5, c6, c7, c8⟩ := HC3.out
    go_wp2_with fail
    go_ret
    exact ⟨rfl, b3⟩
  have hla0 : us.length + vs.length + 1 ≤ 5000000000 := by omega
  have hpo := fun w H => PiecesOk_any po pcap us w H hf1.1 hf1.2
  generalize hpa : Fs.piecesOk us = pa at hpo
  have HPA := hide hpo
  clear hpo
  cases pa
  · clear hfa hf1 hfb hf2 hfit hpa
    have b0 := (Below.refl w.heap.size w).alloc (Nat.le_refl _) (Obj.cells #[.int .i64 y, .int .i64 m, .int .i64 d, .int .i64 h, .int .i64 mi, .int .i64 s, .int .i64 ns, .string ⟨name.toArray⟩, .int .i64 off] 25)
    have HC0 := hide (CCell.new w y m d h mi s ns name off)
    have HE0 := hide (E.below b0)
    have HP0 := hide (hP.below b0)
    have HQ0 := hide (hQ.below b0)
    clear E hP hQ
    unfold civilV at *
    go_enter Tryd.func7, Tryd.ntmps7
    go_wp2_with fail
    refine (HZA.out _ HP0.out).mono ?_
    rintro e w1 ⟨rfl, hq⟩
    have HC1 := hide (HC0.out.below hq)
    have HE1 := hide (HE0.out.below hq)
    have HP1 := hide (HP0.out.below hq)
    have HQ1 := hide (HQ0.out.below hq)
    have b1 := b0.trans (Below.mono hq (by simp))
    clear hq HC0 HE0 b0 HP0 HQ0
    obtain ⟨c0, c1, c2, c3, c4, c5, c6, c7, c8⟩ := HC1.out
    go_wp2_with fail
    refine (HZB.out _ HQ1.out).mono ?_
    rintro e w2 ⟨rfl, hq⟩
    clear c0 c1 c2 c3 c4 c5 c6 c7 c8
    have HC2 := hide (HC1.out.below hq)
    have HE2 := hide (HE1.out.below hq)
    have HP2 := hide (HP1.out.below hq)
    have HQ2 := hide (HQ1.out.below hq)
    have b2 := b1.trans (Below.mono hq b1.size)
    clear hq HC1 HE1 b1 HP1 HQ1
    obtain ⟨c0, c1, c2, c3, c4, c5, c6, c7, c8⟩ := HC2.out
    go_wp2_with fail
    refine (HZ.out _).mono ?_
    rintro e w3 ⟨rfl, hq⟩
    clear c0 c1 c2 c3 c4 c5 c6 c7 c8
    have HC3 := hide (HC2.out.below hq)
    have HE3 := hide (HE2.out.below hq)
    have HP3 := hide (HP2.out.below hq)
    have HQ3 := hide (HQ2.out.below hq)
    have b3 := b2.trans (Below.mono hq b2.size)
    clear hq HC2 HE2 b2 HP2 HQ2
    obtain ⟨c0, c1, c2, c3, c4, c5, c6, c7, c8⟩ := HC3.out
    have hrow0 := PRow.blank w3 w3.heap.size (Nat.le_refl _)
    have ba : Below w3.heap.size w3 (w3.alloc (.cells #[] 34)) := (Below.refl _ _).alloc (Nat.le_refl _) _
    have hPa := HP3.out.below ba
    have HQa := HQ3
    have hla := hla0
    go_wp2_with (at_builtin; first
      | (refine wpList_append_pieces _ rfl (.tmp 28) (.tmp 29) rfl rfl hrow0 (by simp) po pcap us rfl hPa (by simp; omega) ?_; intro v1 wa hr1 hb1; rw [List.nil_append] at hr1; have bb := ba.trans hb1; have bn : Below wa.heap.size wa (wa.alloc (.cells #[.int .i64 0, .string ⟨tx.toArray⟩, .int .i64 0, .bool false] 34)) := (Below.refl _ _).alloc (Nat.le_refl _) _; have hr1n := hr1.below bn; have hsz1 := bb.size; clear hrow0 hPa)
      | (refine wpList_append_pieces _ rfl (.tmp 30) (.tmp 33) rfl rfl hr1n (by simp; omega) (some ⟨wa.heap.size, 0, none⟩) 1 [⟨0, tx, 0, false⟩] rfl (pc_new wa [⟨0, tx, 0, false⟩] 34) (by simp; omega) ?_; intro v2 wb hr2 hb2; have bc := (bb.trans (bn.mono hsz1)).trans hb2; have hqb := HQa.out.below bc; have hsz2 := bc.size; clear hr1n)
      | (refine wpList_append_pieces _ rfl (.tmp 34) (.tmp 35) rfl rfl hr2 hsz2 qo qcap vs rfl hqb (by simp; omega) ?_; intro v3 wc hr3 hb3; have bd := bc.trans hb3; clear hr2))
    obtain ⟨g3, cap3, rfl⟩ := hr3.ptr
    have hpall := hr3.pc
    rw [hn3]
    clear hr1 hb1 bb bn hsz1 hb2 bc hqb hsz2 hb3 ba HQa hr3
    have hq := bd
    have HA4 := hide hpall
    clear hpall bd
    clear c0 c1 c2 c3 c4 c5 c6 c7 c8
    have HC4 := hide (HC3.out.below hq)
    have HE4 := hide (HE3.out.below hq)
    have HP4 := hide (HP3.out.below hq)
    have HQ4 := hide (HQ3.out.below hq)
    have b4 := b3.trans (Below.mono hq b3.size)
    clear hq HC3 HE3 b3 HP3 HQ3
    refine (HPA.out _ HP4.out).mono ?_
    rintro e w5 ⟨rfl, hq⟩
    have HC5 := hide (HC4.out.below hq)
    have HE5 := hide (HE4.out.below hq)
    have HP5 := hide (HP4.out.below hq)
    have HQ5 := hide (HQ4.out.below hq)
    have HA5 := hide (HA4.out.below hq)
    have b5 := b4.trans (Below.mono hq b4.size)
    clear hq HC4 HE4 b4 HP4 HQ4 HA4
    obtain ⟨c0, c1, c2, c3, c4, c5, c6, c7, c8⟩ := HC5.out
    go_wp2_with fail
    go_ret
    exact ⟨rfl, b5⟩
  have hpo := fun w H => PiecesOk_any qo qcap vs w H hf2.1 hf2.2
  generalize hpb : Fs.piecesOk vs = pb at hpo
  have HPB := hide hpo
  clear hpo
  cases pb
  · clear hfa hf1 hfb hf2 hfit hpa hpb
    have b0 := (Below.refl w.heap.size w).alloc (Nat.le_refl _) (Obj.cells #[.int .i64 y, .int .i64 m, .int .i64 d, .int .i64 h, .int .i64 mi, .int .i64 s, .int .i64 ns, .string ⟨name.toArray⟩, .int .i64 off] 25)
    have HC0 := hide (CCell.new w y m d h mi s ns name off)
    have HE0 := hide (E.below b0)
    have HP0 := hide (hP.below b0)
    have HQ0 := hide (hQ.below b0)
    clear E hP hQ
    unfold civilV at *
    go_enter Tryd.func7, Tryd.ntmps7
    go_wp2_with fail
    refine (HZA.out _ HP0.out).mono ?_
    rintro e w1 ⟨rfl, hq⟩
    have HC1 := hide (HC0.out.below hq)
    have HE1 := hide (HE0.out.below hq)
    have HP1 := hide (HP0.out.below hq)
    have HQ1 := hide (HQ0.out.below hq)
    have b1 := b0.trans (Below.mono hq (by simp))
    clear hq HC0 HE0 b0 HP0 HQ0
    obtain ⟨c0, c1, c2, c3, c4, c5, c6, c7, c8⟩ := HC1.out
    go_wp2_with fail
    refine (HZB.out _ HQ1.out).mono ?_
    rintro e w2 ⟨rfl, hq⟩
    clear c0 c1 c2 c3 c4 c5 c6 c7 c8
    have HC2 := hide (HC1.out.below hq)
    have HE2 := hide (HE1.out.below hq)
    have HP2 := hide (HP1.out.below hq)
    have HQ2 := hide (HQ1.out.below hq)
    have b2 := b1.trans (Below.mono hq b1.size)
    clear hq HC1 HE1 b1 HP1 HQ1
    obtain ⟨c0, c1, c2, c3, c4, c5, c6, c7, c8⟩ := HC2.out
    go_wp2_with fail
    refine (HZ.out _).mono ?_
    rintro e w3 ⟨rfl, hq⟩
    clear c0 c1 c2 c3 c4 c5 c6 c7 c8
    have HC3 := hide (HC2.out.below hq)
    have HE3 := hide (HE2.out.below hq)
    have HP3 := hide (HP2.out.below hq)
    have HQ3 := hide (HQ2.out.below hq)
    have b3 := b2.trans (Below.mono hq b2.size)
    clear hq HC2 HE2 b2 HP2 HQ2
    obtain ⟨c0, c1, c2, c3, c4, c5, c6, c7, c8⟩ := HC3.out
    have hrow0 := PRow.blank w3 w3.heap.size (Nat.le_refl _)
    have ba : Below w3.heap.size w3 (w3.alloc (.cells #[] 34)) := (Below.refl _ _).alloc (Nat.le_refl _) _
    have hPa := HP3.out.below ba
    have HQa := HQ3
    have hla := hla0
    go_wp2_with (at_builtin; first
      | (refine wpList_append_pieces _ rfl (.tmp 28) (.tmp 29) rfl rfl hrow0 (by simp) po pcap us rfl hPa (by simp; omega) ?_; intro v1 wa hr1 hb1; rw [List.nil_append] at hr1; have bb := ba.trans hb1; have bn : Below wa.heap.size wa (wa.alloc (.cells #[.int .i64 0, .string ⟨tx.toArray⟩, .int .i64 0, .bool false] 34)) := (Below.refl _ _).alloc (Nat.le_refl _) _; have hr1n := hr1.below bn; have hsz1 := bb.size; clear hrow0 hPa)
      | (refine wpList_append_pieces _ rfl (.tmp 30) (.tmp 33) rfl rfl hr1n (by simp; omega) (some ⟨wa.heap.size, 0, none⟩) 1 [⟨0, tx, 0, false⟩] rfl (pc_new wa [⟨0, tx, 0, false⟩] 34) (by simp; omega) ?_; intro v2 wb hr2 hb2; have bc := (bb.trans (bn.mono hsz1)).trans hb2; have hqb := HQa.out.below bc; have hsz2 := bc.size; clear hr1n)
      | (refine wpList_append_pieces _ rfl (.tmp 34) (.tmp 35) rfl rfl hr2 hsz2 qo qcap vs rfl hqb (by simp; omega) ?_; intro v3 wc hr3 hb3; have bd := bc.trans hb3; clear hr2))
    obtain ⟨g3, cap3, rfl⟩ := hr3.ptr
    have hpall := hr3.pc
    rw [hn3]
    clear hr1 hb1 bb bn hsz1 hb2 bc hqb hsz2 hb3 ba HQa hr3
    have hq := bd
    have HA4 := hide hpall
    clear hpall bd
    clear c0 c1 c2 c3 c4 c5 c6 c7 c8
    have HC4 := hide (HC3.out.below hq)
    have HE4 := hide (HE3.out.below hq)
    have HP4 := hide (HP3.out.below hq)
    have HQ4 := hide (HQ3.out.below hq)
    have b4 := b3.trans (Below.mono hq b3.size)
    clear hq HC3 HE3 b3 HP3 HQ3
    refine (HPA.out _ HP4.out).mono ?_
    rintro e w5 ⟨rfl, hq⟩
    have HC5 := hide (HC4.out.below hq)
    have HE5 := hide (HE4.out.below hq)
    have HP5 := hide (HP4.out.below hq)
    have HQ5 := hide (HQ4.out.below hq)
    have HA5 := hide (HA4.out.below hq)
    have b5 := b4.trans (Below.mono hq b4.size)
    clear hq HC4 HE4 b4 HP4 HQ4 HA4
    obtain ⟨c0, c1, c2, c3, c4, c5, c6, c7, c8⟩ := HC5.out
    go_wp2_with fail
    refine (HPB.out _ HQ5.out).mono ?_
    rintro e w6 ⟨rfl, hq⟩
    clear c0 c1 c2 c3 c4 c5 c6 c7 c8
    have HC6 := hide (HC5.out.below hq)
    have HE6 := hide (HE5.out.below hq)
    have HP6 := hide (HP5.out.below hq)
    have HQ6 := hide (HQ5.out.below hq)
    have HA6 := hide (HA5.out.below hq)
    have b6 := b5.trans (Below.mono hq b5.size)
    clear hq HC5 HE5 b5 HP5 HQ5 HA5
    obtain ⟨c0, c1, c2, c3, c4, c5, c6, c7, c8⟩ := HC6.out
    go_wp2_with fail
    go_ret
    exact ⟨rfl, b6⟩
  obtain ⟨_, la100⟩ := pieces_of hpa
  obtain ⟨_, lb100⟩ := pieces_of hpb
  have hpo := fun w ao cap H => PiecesOk_any ao cap (us ++ [⟨0, tx, 0, false⟩] ++ vs) w H (by simp only [List.length_append, List.length_cons, List.length_nil]; omega) (by
    intro p hp
    simp only [List.append_assoc, List.mem_append, List.mem_cons, List.not_mem_nil, or_false] at hp
    rcases hp with hp | rfl | hp
    · exact hf1.2 p hp
    · simp only []; omega
    · exact hf2.2 p hp)
  generalize hpl : Fs.piecesOk (us ++ [⟨0, tx, 0, false⟩] ++ vs) = pl at hpo
  rw [hn3] at hpo
  have HPL := hide hpo
  clear hpo
  cases pl
  · clear hfa hf1 hfb hf2 hfit hpa hpb hpl
    have b0 := (Below.refl w.heap.size w).alloc (Nat.le_refl _) (Obj.cells #[.int .i64 y, .int .i64 m, .int .i64 d, .int .i64 h, .int .i64 mi, .int .i64 s, .int .i64 ns, .string ⟨name.toArray⟩, .int .i64 off] 25)
    have HC0 := hide (CCell.new w y m d h mi s ns name off)
    have HE0 := hide (E.below b0)
    have HP0 := hide (hP.below b0)
    have HQ0 := hide (hQ.below b0)
    clear E hP hQ
    unfold civilV at *
    go_enter Tryd.func7, Tryd.ntmps7
    go_wp2_with fail
    refine (HZA.out _ HP0.out).mono ?_
    rintro e w1 ⟨rfl, hq⟩
    have HC1 := hide (HC0.out.below hq)
    have HE1 := hide (HE0.out.below hq)
    have HP1 := hide (HP0.out.below hq)
    have HQ1 := hide (HQ0.out.below hq)
    have b1 := b0.trans (Below.mono hq (by simp))
    clear hq HC0 HE0 b0 HP0 HQ0
    obtain ⟨c0, c1, c2, c3, c4, c5, c6, c7, c8⟩ := HC1.out
    go_wp2_with fail
    refine (HZB.out _ HQ1.out).mono ?_
    rintro e w2 ⟨rfl, hq⟩
    clear c0 c1 c2 c3 c4 c5 c6 c7 c8
    have HC2 := hide (HC1.out.below hq)
    have HE2 := hide (HE1.out.below hq)
    have HP2 := hide (HP1.out.below hq)
    have HQ2 := hide (HQ1.out.below hq)
    have b2 := b1.trans (Below.mono hq b1.size)
    clear hq HC1 HE1 b1 HP1 HQ1
    obtain ⟨c0, c1, c2, c3, c4, c5, c6, c7, c8⟩ := HC2.out
    go_wp2_with fail
    refine (HZ.out _).mono ?_
    rintro e w3 ⟨rfl, hq⟩
    clear c0 c1 c2 c3 c4 c5 c6 c7 c8
    have HC3 := hide (HC2.out.below hq)
    have HE3 := hide (HE2.out.below hq)
    have HP3 := hide (HP2.out.below hq)
    have HQ3 := hide (HQ2.out.below hq)
    have b3 := b2.trans (Below.mono hq b2.size)
    clear hq HC2 HE2 b2 HP2 HQ2
    obtain ⟨c0, c1, c2, c3, c4, c5, c6, c7, c8⟩ := HC3.out
    have hrow0 := PRow.blank w3 w3.heap.size (Nat.le_refl _)
    have ba : Below w3.heap.size w3 (w3.alloc (.cells #[] 34)) := (Below.refl _ _).alloc (Nat.le_refl _) _
    have hPa := HP3.out.below ba
    have HQa := HQ3
    have hla := hla0
    go_wp2_with (at_builtin; first
      | (refine wpList_append_pieces _ rfl (.tmp 28) (.tmp 29) rfl rfl hrow0 (by simp) po pcap us rfl hPa (by simp; omega) ?_; intro v1 wa hr1 hb1; rw [List.nil_append] at hr1; have bb := ba.trans hb1; have bn : Below wa.heap.size wa (wa.alloc (.cells #[.int .i64 0, .string ⟨tx.toArray⟩, .int .i64 0, .bool false] 34)) := (Below.refl _ _).alloc (Nat.le_refl _) _; have hr1n := hr1.below bn; have hsz1 := bb.size; clear hrow0 hPa)
      | (refine wpList_append_pieces _ rfl (.tmp 30) (.tmp 33) rfl rfl hr1n (by simp; omega) (some ⟨wa.heap.size, 0, none⟩) 1 [⟨0, tx, 0, false⟩] rfl (pc_new wa [⟨0, tx, 0, false⟩] 34) (by simp; omega) ?_; intro v2 wb hr2 hb2; have bc := (bb.trans (bn.mono hsz1)).trans hb2; have hqb := HQa.out.below bc; have hsz2 := bc.size; clear hr1n)
      | (refine wpList_append_pieces _ rfl (.tmp 34) (.tmp 35) rfl rfl hr2 hsz2 qo qcap vs rfl hqb (by simp; omega) ?_; intro v3 wc hr3 hb3; have bd := bc.trans hb3; clear hr2))
    obtain ⟨g3, cap3, rfl⟩ := hr3.ptr
    have hpall := hr3.pc
    rw [hn3]
    clear hr1 hb1 bb bn hsz1 hb2 bc hqb hsz2 hb3 ba HQa hr3
    have hq := bd
    have HA4 := hide hpall
    clear hpall bd
    clear c0 c1 c2 c3 c4 c5 c6 c7 c8
    have HC4 := hide (HC3.out.below hq)
    have HE4 := hide (HE3.out.below hq)
    have HP4 := hide (HP3.out.below hq)
    have HQ4 := hide (HQ3.out.below hq)
    have b4 := b3.trans (Below.mono hq b3.size)
    clear hq HC3 HE3 b3 HP3 HQ3
    refine (HPA.out _ HP4.out).mono ?_
    rintro e w5 ⟨rfl, hq⟩
    have HC5 := hide (HC4.out.below hq)
    have HE5 := hide (HE4.out.below hq)
    have HP5 := hide (HP4.out.below hq)
    have HQ5 := hide (HQ4.out.below hq)
    have HA5 := hide (HA4.out.below hq)
    have b5 := b4.trans (Below.mono hq b4.size)
    clear hq HC4 HE4 b4 HP4 HQ4 HA4
    obtain ⟨c0, c1, c2, c3, c4, c5, c6, c7, c8⟩ := HC5.out
    go_wp2_with fail
    refine (HPB.out _ HQ5.out).mono ?_
    rintro e w6 ⟨rfl, hq⟩
    clear c0 c1 c2 c3 c4 c5 c6 c7 c8
    have HC6 := hide (HC5.out.below hq)
    have HE6 := hide (HE5.out.below hq)
    have HP6 := hide (HP5.out.below hq)
    have HQ6 := hide (HQ5.out.below hq)
    have HA6 := hide (HA5.out.below hq)
    have b6 := b5.trans (Below.mono hq b5.size)
    clear hq HC5 HE5 b5 HP5 HQ5 HA5
    obtain ⟨c0, c1, c2, c3, c4, c5, c6, c7, c8⟩ := HC6.out
    go_wp2_with fail
    refine (HPL.out _ _ _ HA6.out).mono ?_
    rintro e w7 ⟨rfl, hq⟩
    clear c0 c1 c2 c3 c4 c5 c6 c7 c8
    have HC7 := hide (HC6.out.below hq)
    have HE7 := hide (HE6.out.below hq)
    have HP7 := hide (HP6.out.below hq)
    have HQ7 := hide (HQ6.out.below hq)
    have HA7 := hide (HA6.out.below hq)
    have b7 := b6.trans (Below.mono hq b6.size)
    clear hq HC6 HE6 b6 HP6 HQ6 HA6
    obtain ⟨c0, c1, c2, c3, c4, c5, c6, c7, c8⟩ := HC7.out
    go_wp2_with fail
    go_ret
    exact ⟨rfl, b7⟩
  have hl2 : name.length ≤ 2147483647 := by simpa using hfit
  have hk := fun w => civilOk_any y m d h mi s ns name (by omega) off w
  generalize hok : Fs.civilOk y m d h mi s ns name off = ok at hk
  have HKO := hide hk
  clear hk
  cases ok
  · clear hfa hf1 hfb hf2 hfit hpa hpb hpl hok
    have b0 := (Below.refl w.heap.size w).alloc (Nat.le_refl _) (Obj.cells #[.int .i64 y, .int .i64 m, .int .i64 d, .int .i64 h, .int .i64 mi, .int .i64 s, .int .i64 ns, .string ⟨name.toArray⟩, .int .i64 off] 25)
    have HC0 := hide (CCell.new w y m d h mi s ns name off)
    have HE0 := hide (E.below b0)
    have HP0 := hide (hP.below b0)
    have HQ0 := hide (hQ.below b0)
    clear E hP hQ
    unfold civilV at *
    go_enter Tryd.func7, Tryd.ntmps7
    go_wp2_with fail
    refine (HZA.out _ HP0.out).mono ?_
    rintro e w1 ⟨rfl, hq⟩
    have HC1 := hide (HC0.out.below hq)
    have HE1 := hide (HE0.out.below hq)
    have HP1 := hide (HP0.out.below hq)
    have HQ1 := hide (HQ0.out.below hq)
    have b1 := b0.trans (Below.mono hq (by simp))
    clear hq HC0 HE0 b0 HP0 HQ0
    obtain ⟨c0, c1, c2, c3, c4, c5, c6, c7, c8⟩ := HC1.out
    go_wp2_with fail
    refine (HZB.out _ HQ1.out).mono ?_
    rintro e w2 ⟨rfl, hq⟩
    clear c0 c1 c2 c3 c4 c5 c6 c7 c8
    have HC2 := hide (HC1.out.below hq)
    have HE2 := hide (HE1.out.below hq)
    have HP2 := hide (HP1.out.below hq)
    have HQ2 := hide (HQ1.out.below hq)
    have b2 := b1.trans (Below.mono hq b1.size)
    clear hq HC1 HE1 b1 HP1 HQ1
    obtain ⟨c0, c1, c2, c3, c4, c5, c6, c7, c8⟩ := HC2.out
    go_wp2_with fail
    refine (HZ.out _).mono ?_
    rintro e w3 ⟨rfl, hq⟩
    clear c0 c1 c2 c3 c4 c5 c6 c7 c8
    have HC3 := hide (HC2.out.below hq)
    have HE3 := hide (HE2.out.below hq)
    have HP3 := hide (HP2.out.below hq)
    have HQ3 := hide (HQ2.out.below hq)
    have b3 := b2.trans (Below.mono hq b2.size)
    clear hq HC2 HE2 b2 HP2 HQ2
    obtain ⟨c0, c1, c2, c3, c4, c5, c6, c7, c8⟩ := HC3.out
    have hrow0 := PRow.blank w3 w3.heap.size (Nat.le_refl _)
    have ba : Below w3.heap.size w3 (w3.alloc (.cells #[] 34)) := (Below.refl _ _).alloc (Nat.le_refl _) _
    have hPa := HP3.out.below ba
    have HQa := HQ3
    have hla := hla0
    go_wp2_with (at_builtin; first
      | (refine wpList_append_pieces _ rfl (.tmp 28) (.tmp 29) rfl rfl hrow0 (by simp) po pcap us rfl hPa (by simp; omega) ?_; intro v1 wa hr1 hb1; rw [List.nil_append] at hr1; have bb := ba.trans hb1; have bn : Below wa.heap.size wa (wa.alloc (.cells #[.int .i64 0, .string ⟨tx.toArray⟩, .int .i64 0, .bool false] 34)) := (Below.refl _ _).alloc (Nat.le_refl _) _; have hr1n := hr1.below bn; have hsz1 := bb.size; clear hrow0 hPa)
      | (refine wpList_append_pieces _ rfl (.tmp 30) (.tmp 33) rfl rfl hr1n (by simp; omega) (some ⟨wa.heap.size, 0, none⟩) 1 [⟨0, tx, 0, false⟩] rfl (pc_new wa [⟨0, tx, 0, false⟩] 34) (by simp; omega) ?_; intro v2 wb hr2 hb2; have bc := (bb.trans (bn.mono hsz1)).trans hb2; have hqb := HQa.out.below bc; have hsz2 := bc.size; clear hr1n)
      | (refine wpList_append_pieces _ rfl (.tmp 34) (.tmp 35) rfl rfl hr2 hsz2 qo qcap vs rfl hqb (by simp; omega) ?_; intro v3 wc hr3 hb3; have bd := bc.trans hb3; clear hr2))
    obtain ⟨g3, cap3, rfl⟩ := hr3.ptr
    have hpall := hr3.pc
    rw [hn3]
    clear hr1 hb1 bb bn hsz1 hb2 bc hqb hsz2 hb3 ba HQa hr3
    have hq := bd
    have HA4 := hide hpall
    clear hpall bd
    clear c0 c1 c2 c3 c4 c5 c6 c7 c8
    have HC4 := hide (HC3.out.below hq)
    have HE4 := hide (HE3.out.below hq)
    have HP4 := hide (HP3.out.below hq)
    have HQ4 := hide (HQ3.out.below hq)
    have b4 := b3.trans (Below.mono hq b3.size)
    clear hq HC3 HE3 b3 HP3 HQ3
    refine (HPA.out _ HP4.out).mono ?_
    rintro e w5 ⟨rfl, hq⟩
    have HC5 := hide (HC4.out.below hq)
    have HE5 := hide (HE4.out.below hq)
    have HP5 := hide (HP4.out.below hq)
    have HQ5 := hide (HQ4.out.below hq)
    have HA5 := hide (HA4.out.below hq)
    have b5 := b4.trans (Below.mono hq b4.size)
    clear hq HC4 HE4 b4 HP4 HQ4 HA4
    obtain ⟨c0, c1, c2, c3, c4, c5, c6, c7, c8⟩ := HC5.out
    go_wp2_with fail
    refine (HPB.out _ HQ5.out).mono ?_
    rintro e w6 ⟨rfl, hq⟩
    clear c0 c1 c2 c3 c4 c5 c6 c7 c8
    have HC6 := hide (HC5.out.below hq)
    have HE6 := hide (HE5.out.below hq)
    have HP6 := hide (HP5.out.below hq)
    have HQ6 := hide (HQ5.out.below hq)
    have HA6 := hide (HA5.out.below hq)
    have b6 := b5.trans (Below.mono hq b5.size)
    clear hq HC5 HE5 b5 HP5 HQ5 HA5
    obtain ⟨c0, c1, c2, c3, c4, c5, c6, c7, c8⟩ := HC6.out
    go_wp2_with fail
    refine (HPL.out _ _ _ HA6.out).mono ?_
    rintro e w7 ⟨rfl, hq⟩
    clear c0 c1 c2 c3 c4 c5 c6 c7 c8
    have HC7 := hide (HC6.out.below hq)
    have HE7 := hide (HE6.out.below hq)
    have HP7 := hide (HP6.out.below hq)
    have HQ7 := hide (HQ6.out.below hq)
    have HA7 := hide (HA6.out.below hq)
    have b7 := b6.trans (Below.mono hq b6.size)
    clear hq HC6 HE6 b6 HP6 HQ6 HA6
    obtain ⟨c0, c1, c2, c3, c4, c5, c6, c7, c8⟩ := HC7.out
    go_wp2_with fail
    refine (HKO.out _).mono ?_
    rintro e w8 ⟨rfl, hq⟩
    clear c0 c1 c2 c3 c4 c5 c6 c7 c8
    have HC8 := hide (HC7.out.below hq)
    have HE8 := hide (HE7.out.below hq)
    have HP8 := hide (HP7.out.below hq)
    have HQ8 := hide (HQ7.out.below hq)
    have HA8 := hide (HA7.out.below hq)
    have b8 := b7.trans (Below.mono hq b7.size)
    clear hq HC7 HE7 b7 HP7 HQ7 HA7
    obtain ⟨c0, c1, c2, c3, c4, c5, c6, c7, c8⟩ := HC8.out
    go_wp2_with fail
    go_ret
    exact ⟨rfl, b8⟩
  · obtain ⟨Y, M, D, Hh, Mi, S, Ns, CF⟩ := civF hok
    obtain ⟨rfl, rfl, rfl, rfl, rfl, rfl, rfl⟩ := CF.eqs
    exact told_FnFormatSeam CF po pcap us hpa tx qo qcap vs hpb hpl w hP hQ E
end Go.Proofs.YtjkfjlifcilejaaDoor
