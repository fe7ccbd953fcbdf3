/-
  THE LAW FnExactChunks: its walk: it returns true at every input.
-/
import Derived.Test.YthgncomlplnjoaaDoorWz
namespace Go.Proofs.YthgncomlplnjoaaDoor
open Go.RowKit
set_option linter.unusedVariables false
attribute [local go_sem] ByteArray.extract_mk get_mk ByteArray.toList_mk ByteArray.mk_append_mk take_drop_len

/-- what holds at the head of a round: k pieces are done, T is the text since the last element, R what is left of the layout -/
structure LI (w : World) (ps : List Fs.Piece) (k : Nat) (T R : List UInt8) (wr : World) : Prop where
  bel : Below w.heap.size w wr
  all : Fs.allFrom (prevOf ps k) (ps.drop k) = true
  text : T.all Fs.plainC = true
  len : T.length ≤ k * 1000
  rest : R = T ++ Fs.layout (ps.drop k)

theorem pieces_ok : ∀ {prev : Option Fs.Piece} {ps : List Fs.Piece}, Fs.allFrom prev ps = true → ∀ p ∈ ps, Fs.pieceOk p = true
  | _, [], _ => by simp
  | _, p :: r, h => by
    simp only [Fs.allFrom, Fs.stepOk, Bool.and_eq_true] at h
    intro q hq
    rcases List.mem_cons.1 hq with rfl | hq
    · exact h.1.1
    · exact pieces_ok h.2 q hq
theorem prevOf_succ {ps : List Fs.Piece} {k : Nat} {p : Fs.Piece} (h : ps.drop k = p :: ps.drop (k + 1)) : prevOf ps (k + 1) = some p := by
  have hk : k < ps.length := by
    by_cases hk : k < ps.length
    · exact hk
    · rw [List.drop_of_length_le (by omega)] at h; cases h
  have hp : ps[k] = p := by
    rw [List.drop_eq_getElem_cons hk] at h
    exact (List.cons.inj h).1
  simp [prevOf, hk, hp]
theorem LI.text_step {w : World} {ps : List Fs.Piece} {k : Nat} {T R : List UInt8} {wr : World} {p : Fs.Piece} (h : LI w ps k T R wr) (hd : ps.drop k = p :: ps.drop (k + 1)) (h0 : p.kind = 0) : LI w ps (k + 1) (T ++ p.text) R wr := by
  have ha := h.all
  rw [hd] at ha
  simp only [Fs.allFrom, Fs.stepOk, Bool.and_eq_true] at ha
  obtain ⟨⟨hp, _⟩, hr⟩ := ha
  have hel : Fs.element p = p.text := by
    obtain ⟨K, T', N, C⟩ := p
    simp only at h0
    subst h0
    simp [Fs.element]
  have hpl : Fs.plain p.text = true := by
    obtain ⟨K, T', N, C⟩ := p
    simp only at h0
    subst h0
    simp [Fs.pieceOk] at hp
    exact hp.1.1.2
  refine ⟨h.bel, by rw [prevOf_succ hd]; exact hr, ?_, ?_, ?_⟩
  · rw [List.all_append, h.text, Fs.plain_all hpl]; rfl
  · have := h.len
    have := Fs.element_len hp
    rw [hel] at this
    rw [List.length_append]
    omega
  · rw [h.rest, hd]
    have e : Fs.layout (p :: ps.drop (k + 1)) = Fs.element p ++ Fs.layout (ps.drop (k + 1)) := by simp [Fs.layout]
    rw [e, hel, List.append_assoc]
theorem LI.el_step {w : World} {ps : List Fs.Piece} {k : Nat} {T R : List UInt8} {wr : World} {p : Fs.Piece} (h : LI w ps k T R wr) (hd : ps.drop k = p :: ps.drop (k + 1)) (h0 : p.kind ≠ 0) :
    Fs.chunk R = (T, Fs.element p, Fs.layout (ps.drop (k + 1))) ∧ Fs.pieceOk p = true ∧ ∀ w', Below w.heap.size w w' → LI w ps (k + 1) [] (Fs.layout (ps.drop (k + 1))) w' := by
  have ha := h.all
  rw [hd] at ha
  simp only [Fs.allFrom, Fs.stepOk, Bool.and_eq_true] at ha
  obtain ⟨⟨hp, _⟩, hr⟩ := ha
  refine ⟨?_, hp, fun w' hb => ⟨hb, by rw [prevOf_succ hd]; exact hr, rfl, by simp, rfl⟩⟩
  rw [h.rest, hd]
  exact Fs.chunk_layout h.text hp h0 hr
theorem LI.rest_len {w : World} {ps : List Fs.Piece} {k : Nat} {T R : List UInt8} {wr : World} (h : LI w ps k T R wr) (hk : k ≤ ps.length) (h100 : ps.length ≤ 100) : R.length ≤ 200000 ∧ T.length ≤ 100000 := by
  have h1 := layout_len (pieces_ok h.all)
  have h2 := h.len
  rw [h.rest, List.length_append]
  rw [List.length_drop] at h1
  omega

set_option maxHeartbeats 4000000 in
theorem law_FnExactChunks (ao : Option Addr) (cap : Nat) (ps : List Fs.Piece) (w : World) (H : PC w ao ps) (hlen : ps.length ≤ 9223372036854775807) (E : HStd w) :
    Calls Tryd.prog 8 #[.slice ao ps.length cap] w fun e w' => e = .returned (.bool true) ∧ Below w.heap.size w w' := by
  have hfits := zzFits1_any ao cap ps w H hlen
  cases hf : Fs.fits ps
  · rw [hf] at hfits
    go_enter Tryd.func8, Tryd.ntmps8
    go_wp2_with fail
    refine hfits.mono ?_
    rintro e w2 ⟨rfl, hq⟩
    clear hf
    go_wp2_with fail
    go_ret
    exact ⟨rfl, hq⟩
  rw [hf] at hfits
  have hfit2 : ps.length ≤ 2147483647 ∧ ∀ p ∈ ps, p.text.length ≤ 2147483647 := by simpa [Fs.fits] using hf
  have HFit := hide hfit2
  clear hf hfit2
  go_enter Tryd.func8, Tryd.ntmps8
  go_wp2_with fail
  refine hfits.mono ?_
  rintro e w2 ⟨rfl, hb2⟩
  have H2 := H.below hb2
  have E2 := E.below hb2
  clear hfits
  have hok := PiecesOk_any ao cap ps w2 H2 HFit.out.1 HFit.out.2
  cases hg : Fs.piecesOk ps
  · rw [hg] at hok
    go_wp2_with fail
    refine hok.mono ?_
    rintro e w3 ⟨rfl, hq⟩
    clear hg
    have b3 := hb2.trans (hq.mono hb2.size)
    go_wp2_with fail
    go_ret
    exact ⟨rfl, b3⟩
  rw [hg] at hok
  have hall : Fs.allFrom none ps = true ∧ ps.length ≤ 100 := by
    simp [Fs.piecesOk] at hg
    exact hg.1
  obtain ⟨hall, h100⟩ := hall
  have HALL := hide hall
  clear hg hall
  go_wp2_with fail
  refine hok.mono ?_
  rintro e w3 ⟨rfl, hq⟩
  have b3 := hb2.trans (hq.mono hb2.size)
  have H3 := H2.below hq
  have E3 := E2.below hq
  clear hq hok
  have hlay := Layout_any ao cap ps w3 H3 h100 (pieces_ok HALL.out)
  go_wp2_with fail
  refine hlay.mono ?_
  rintro e w4 ⟨rfl, hq⟩
  have b4 := b3.trans (hq.mono b3.size)
  clear hlay hq H2 H3 E2 E3 b3 hb2
  go_wp2_with fail
  go_loopw [3, 4, 5] (fun r t i wr => ∃ (k : Nat) (T R : List UInt8), k ≤ ps.length ∧ i = .int .i64 k ∧ t = .string ⟨T.toArray⟩ ∧ r = .string ⟨R.toArray⟩ ∧ Hid (LI w ps k T R wr))
    (fun _ _ i _ => ps.length - (intOf i).toNat)
  case atStart => exact ⟨0, [], _, Nat.zero_le _, rfl, rfl, rfl, ⟨b4, by rw [List.drop_zero]; exact HALL.out, rfl, by simp, by simp⟩⟩
  case round =>
    clear b4
    obtain ⟨k, T, R, hk, rfl, rfl, rfl, hLI⟩ := hrel
    have hRL := hLI.out.rest_len hk h100
    obtain ⟨hRL, hTL⟩ := hRL
    have hb := hLI.out.bel
    have Er := E.below hb
    by_cases hlt : k < ps.length
    · obtain ⟨b, off, rfl, hc⟩ : ∃ b off, ao = some ⟨b, off, none⟩ ∧ ∀ k (h : k < ps.length), PCell w b (off + k * 4) ps[k] := by
        rcases H with h | h
        · rw [h] at hlt; exact absurd hlt (by simp)
        · exact h
      have hPC := hc k hlt
      have HFk := HFit.out.2 ps[k] (List.getElem_mem hlt)
      obtain ⟨p, hp⟩ : ∃ p, ps[k] = p := ⟨_, rfl⟩
      have HD : Hid (ps.drop k = p :: ps.drop (k + 1)) := by show _ = _; rw [drop_get hlt, hp]
      rw [hp] at hPC HFk
      clear hp hc H
      have HPC := hide hPC
      obtain ⟨c0, c1, c2, c3⟩ := hPC.below hb
      clear hPC
      by_cases h0 : p.kind = 0
      · have HN := hide (hLI.out.text_step HD.out h0)
        obtain ⟨K, X, N, C⟩ := p
        simp only at c0 c1 c2 c3 h0 HN HFk
        have e0 : (K == 0) = true := by rw [beq_iff_eq]; exact h0
        clear h0 hLI
        go_wp2_with fail
        go_roundw
        case rel => exact ⟨k + 1, _, R, by omega, by go_num, rfl, rfl, HN⟩
        case measure => simp [intOf]; omega
      · obtain ⟨hch, hpo, hnx⟩ := hLI.out.el_step HD.out h0
        have HCH := hide hch
        have HN := hide hnx
        have hEL := hide (fun W => Element_any p hpo W)
        clear hch hpo hnx
        generalize Fs.element p = el at HCH hEL
        generalize Fs.layout (ps.drop (k + 1)) = R2 at HCH HN
        obtain ⟨K, X, N, C⟩ := p
        simp only at c0 c1 c2 c3 h0 HFk
        have e0 : (K == 0) = false := by rw [beq_eq_false_iff_ne]; exact h0
        clear h0 hLI
        go_wp2_with fail
        refine (iNextChunk_any R (by omega) _ Er).mono ?_
        rw [HCH.out]
        simp only [chunkV]
        rintro e w5 ⟨rfl, hq⟩
        have d0 := hq.cell c0
        have d1 := hq.cell c1
        have d2 := hq.cell c2
        have d3 := hq.cell c3
        have b5 := hb.trans (hq.below _)
        clear c0 c1 c2 c3 hb Er hq
        go_wp2_with fail
        refine (hEL.out _).mono ?_
        rintro e w6 ⟨rfl, hq⟩
        have b6 := b5.trans (hq.mono b5.size)
        have HN2 := hide (HN.out _ b6)
        clear d0 d1 d2 d3 b5 b6 hq HN
        go_wp2_with fail
        go_roundw
        case rel => exact ⟨k + 1, [], R2, by omega, by go_num, rfl, rfl, HN2⟩
        case measure => simp [intOf]; omega
    · have hkl : k = ps.length := by omega
      have HCH : Hid (Fs.chunk R = (T, [], [])) := by
        show _ = _
        rw [hLI.out.rest, hkl]
        simp [Fs.layout]
        exact Fs.chunk_end hLI.out.text
      subst hkl
      clear hlt hLI
      have hnl : ¬ ((ps.length : Int) < ps.length) := by omega
      go_wp2_with fail
      refine (iNextChunk_any R (by omega) _ Er).mono ?_
      rw [HCH.out]
      simp only [chunkV]
      rintro e w5 ⟨rfl, hq⟩
      have b5 := hb.trans (hq.below _)
      have E5 := Er.qt hq
      clear hb Er hq
      go_wp2_with fail
      refine (iNextChunk_any [50, 48, 48, 54] (by simp) _ E5).mono ?_
      rw [Fs.chunk_2006]
      simp only [chunkV]
      rintro e w6 ⟨rfl, hq⟩
      have b6 := b5.trans (hq.below _)
      clear b5 E5 hq
      go_wp2_with fail
      go_ret
      exact ⟨rfl, b6⟩
end Go.Proofs.YthgncomlplnjoaaDoor
