/-
  THE LAW FnChunkElement: its walk: it returns true at every input.
-/
import Derived.Test.YthgncomlplnjoaaDoorWv
namespace Go.Proofs.YthgncomlplnjoaaDoor
open Go.RowKit
set_option linter.unusedVariables false
attribute [local go_sem] ByteArray.extract_mk get_mk ByteArray.toList_mk ByteArray.mk_append_mk take_drop_len

theorem zzFits2_any (K : Int) (T : List UInt8) (N : Int) (C : Bool) (w : World) : Calls Tryd.prog 14 #[.agg #[.int .i64 K, .string ⟨T.toArray⟩, .int .i64 N, .bool C]] w fun e w' => e = .returned (.bool (decide (T.length ≤ 2147483647))) ∧ Below w.heap.size w w' := by
  have b0 := ((Below.refl w.heap.size w).alloc (Nat.le_refl _) (Obj.cells #[.int .i64 K, .string ⟨List.toArray T⟩, .int .i64 N, .bool C] 32))
  by_cases h : (2147483647 : Int) < T.length
  · go_enter Tryd.func14, Tryd.ntmps14
    go_wp2_with fail
    go_ret
    exact ⟨ret_bool (by simp; omega), b0⟩
  · go_enter Tryd.func14, Tryd.ntmps14
    go_wp2_with fail
    go_ret
    exact ⟨ret_bool (by simp; omega), b0⟩


set_option maxHeartbeats 2000000 in
theorem law_FnChunkElement (p : Fs.Piece) (hl : p.text.length ≤ 9223372036854775807) (w : World) (E : HStd w) :
    Calls Tryd.prog 7 #[.agg #[.int .i64 p.kind, .string ⟨p.text.toArray⟩, .int .i64 p.n, .bool p.comma]] w fun e w' => e = .returned (.bool true) ∧ Below w.heap.size w w' := by
  have hPO := PieceOk_any p
  have hEL := Element_any p
  have hCH := fun h k => Fs.chunk_element (p := p) h k (r := []) rfl (fun _ => rfl)
  have hEN := fun h => Fs.element_len (p := p) h
  obtain ⟨pc, hpc⟩ : ∃ pc, Fs.pieceOk p = pc := ⟨_, rfl⟩
  obtain ⟨el, hel⟩ : ∃ el, Fs.element p = el := ⟨_, rfl⟩
  rw [hpc] at hPO hEL hCH hEN
  rw [hel] at hEL hCH hEN
  clear hpc hel
  rw [List.append_nil] at hCH
  obtain ⟨K, T, N, C⟩ := p
  simp only at hl hPO hEL hCH hEN ⊢
  have b0 := ((Below.refl w.heap.size w).alloc (Nat.le_refl _) (Obj.cells #[.int .i64 K, .string ⟨List.toArray T⟩, .int .i64 N, .bool C] 32))
  have E0 := E.below b0
  have HCH := hide hCH
  have HEN := hide hEN
  have HEL := hide hEL
  clear hCH hEN hEL
  by_cases hT : T.length ≤ 2147483647
  · have HPO := hide (hPO (by omega))
    clear hPO
    go_enter Tryd.func7, Tryd.ntmps7
    go_wp2_with fail
    refine (zzFits2_any K T N C _).mono ?_
    rw [decide_eq_true hT]
    rintro e w2 ⟨rfl, hq⟩
    have b2 := b0.trans (hq.mono (by simp))
    have E2 := E0.below hq
    have hs2 : w.heap.size < w2.heap.size := by have := hq.size; simp at this; omega
    have c0 : w2.cell? ⟨w.heap.size, 0, none⟩ = some (.int .i64 K) := (hq.cell (by simp)).trans (World.cell?_alloc_mark w _ _ _ 0)
    have c1 : w2.cell? ⟨w.heap.size, 1, none⟩ = some (.string ⟨T.toArray⟩) := (hq.cell (by simp)).trans (World.cell?_alloc_mark w _ _ _ 1)
    have c2 : w2.cell? ⟨w.heap.size, 2, none⟩ = some (.int .i64 N) := (hq.cell (by simp)).trans (World.cell?_alloc_mark w _ _ _ 2)
    have c3 : w2.cell? ⟨w.heap.size, 3, none⟩ = some (.bool C) := (hq.cell (by simp)).trans (World.cell?_alloc_mark w _ _ _ 3)
    clear hq b0 E0 hT
    go_wp2_with fail
    refine (iNextChunk_any [50, 48, 48, 54] (by simp) _ E2).mono ?_
    rw [Fs.chunk_2006]
    simp only [chunkV]
    rintro e w3 ⟨rfl, hq⟩
    have d0 := hq.cell c0
    have d1 := hq.cell c1
    have d2 := hq.cell c2
    have d3 := hq.cell c3
    have b3 := b2.trans (hq.below _)
    have E3 := E2.qt hq
    have hs3 : w.heap.size < w3.heap.size := by have := (hq.below 0).size; omega
    clear hq b2 E2 c0 c1 c2 c3 hs2
    by_cases hK : K = 0
    · have e0 : (K == 0) = true := by rw [beq_iff_eq]; exact hK
      go_wp2_with fail
      go_ret
      exact ⟨rfl, b3⟩
    · have e0 : (K == 0) = false := by rw [beq_eq_false_iff_ne]; exact hK
      have HCH2 := hide (fun h => HCH.out h hK)
      clear HCH hK
      go_wp2_with fail
      refine (HPO.out _).mono ?_
      rintro e w4 ⟨rfl, hq⟩
      have b4 := b3.trans (hq.mono (by omega))
      have E4 := E3.below hq
      have f0 := (hq.cell (by exact hs3)).trans d0
      have f1 := (hq.cell (by exact hs3)).trans d1
      have f2 := (hq.cell (by exact hs3)).trans d2
      have f3 := (hq.cell (by exact hs3)).trans d3
      have hs4 : w.heap.size < w4.heap.size := by have := hq.size; omega
      clear hq b3 E3 d0 d1 d2 d3 hs3
      cases pc
      · go_wp2_with fail
        go_ret
        exact ⟨rfl, b4⟩
      · go_wp2_with fail
        refine (HEL.out trivial _).mono ?_
        rintro e w5 ⟨rfl, hq⟩
        have b5 := b4.trans (hq.mono (by omega))
        have E5 := E4.below hq
        clear hq b4 E4 f0 f1 f2 f3
        go_wp2_with fail
        refine (iNextChunk_any el (by have := HEN.out trivial; omega) _ E5).mono ?_
        rw [HCH2.out trivial]
        simp only [chunkV]
        rintro e w6 ⟨rfl, hq⟩
        have b6 := b5.trans (hq.below _)
        clear hq b5 E5
        go_wp2_with fail
        go_ret
        exact ⟨rfl, b6⟩
  · go_enter Tryd.func7, Tryd.ntmps7
    go_wp2_with fail
    refine (zzFits2_any K T N C _).mono ?_
    rw [decide_eq_false hT]
    rintro e w2 ⟨rfl, hq⟩
    have b2 := b0.trans (hq.mono (by simp))
    go_wp2_with fail
    go_ret
    exact ⟨rfl, b2⟩
end Go.Proofs.YthgncomlplnjoaaDoor
