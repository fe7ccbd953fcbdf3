/-
  WALKS, part t: pieces: pieceOk, PieceOk.
-/
import Derived.Test.YtjkfjlifcilejaaDoorWs2
namespace Go.Proofs.YtjkfjlifcilejaaDoor
open Go.RowKit
set_option linter.unusedVariables false
attribute [local go_sem] ByteArray.extract_mk get_mk ByteArray.toList_mk ByteArray.mk_append_mk take_drop_len

/-- a piece as the program holds it -/
def pieceV (p : Fs.Piece) : Value := .agg #[.int .i64 p.kind, .string ⟨p.text.toArray⟩, .int .i64 p.n, .bool p.comma]

set_option maxHeartbeats 2000000 in
theorem pieceOk_any (p : Fs.Piece) (hl : p.text.length ≤ 140737488351230) (w : World) : Calls Tryd.prog 42 #[.agg #[.int .i64 p.kind, .string ⟨p.text.toArray⟩, .int .i64 p.n, .bool p.comma]] w fun e w' => e = .returned (.bool (Fs.pieceOk p)) ∧ Below w.heap.size w w' := by
  obtain ⟨K, T, N, C⟩ := p
  simp only at hl ⊢
  have b0 := ((Below.refl w.heap.size w).alloc (Nat.le_refl _) (Obj.cells #[.int .i64 K, .string ⟨List.toArray T⟩, .int .i64 N, .bool C] 34))
  by_cases h0 : K = 0
  · have e0 : (K == 0) = true := by rw [beq_iff_eq]; exact h0
    by_cases hT : T = []
    · have HX : Hid (Fs.pieceOk ⟨K, T, N, C⟩ = false) := by show _ = _; simp [Fs.pieceOk, h0, hT]
      subst hT h0
      go_enter Tryd.func42, Tryd.ntmps42
      go_wp2_with fail
      go_ret
      exact ⟨ret_bool HX.out.symm, b0⟩
    · have hE : List.isEmpty T = false := by simpa using hT
      have HX : Hid (Fs.pieceOk ⟨K, T, N, C⟩ = (Fs.plain T && N == 0 && !C)) := by show _ = _; simp [Fs.pieceOk, h0, hE]
      clear h0 hT
      generalize hp : Fs.plain T = pl at HX
      cases pl
      · go_enter Tryd.func42, Tryd.ntmps42
        go_wp2_with fail
        refine (plain_any T hl _).mono ?_
        rw [hp]
        rintro e w2 ⟨rfl, hq⟩
        clear hp
        go_wp2_with fail
        go_ret
        exact ⟨ret_bool (by rw [HX.out]; rfl), b0.trans (hq.below _)⟩
      · by_cases hN : N = 0
        · have eN : (N == 0) = true := by rw [beq_iff_eq]; exact hN
          clear hN
          go_enter Tryd.func42, Tryd.ntmps42
          go_wp2_with fail
          refine (plain_any T hl _).mono ?_
          rw [hp]
          rintro e w2 ⟨rfl, hq⟩
          clear hp
          have hc := (b0.trans (hq.below _))
          have c2 : w2.cell? ⟨w.heap.size, 2, none⟩ = some (.int .i64 N) := hq.cell (World.cell?_alloc_mark w _ _ _ 2)
          have c3 : w2.cell? ⟨w.heap.size, 3, none⟩ = some (.bool C) := hq.cell (World.cell?_alloc_mark w _ _ _ 3)
          go_wp2_with fail
          go_ret
          exact ⟨ret_bool (by rw [HX.out, eN]; rfl), hc⟩
        · have eN : (N == 0) = false := by rw [beq_eq_false_iff_ne]; exact hN
          clear hN
          go_enter Tryd.func42, Tryd.ntmps42
          go_wp2_with fail
          refine (plain_any T hl _).mono ?_
          rw [hp]
          rintro e w2 ⟨rfl, hq⟩
          clear hp
          have hc := (b0.trans (hq.below _))
          have c2 : w2.cell? ⟨w.heap.size, 2, none⟩ = some (.int .i64 N) := hq.cell (World.cell?_alloc_mark w _ _ _ 2)
          go_wp2_with fail
          go_ret
          exact ⟨ret_bool (by rw [HX.out, eN]; rfl), hc⟩
  · have e0 : (K == 0) = false := by rw [beq_eq_false_iff_ne]; exact h0
    generalize hf : Fs.isFraction K = fr
    cases fr
    · have HX : Hid (Fs.pieceOk ⟨K, T, N, C⟩ = (Fs.within K 1 34 && T.isEmpty && N == 0 && !C)) := by show _ = _; simp [Fs.pieceOk, h0, hf]
      clear h0
      generalize hwi : Fs.within K 1 34 = wi at HX
      cases wi
      · go_enter Tryd.func42, Tryd.ntmps42
        go_wp2_with fail
        refine (isFraction_any K _).mono ?_
        rw [hf]
        rintro e w2 ⟨rfl, hq⟩
        have c0 : w2.cell? ⟨w.heap.size, 0, none⟩ = some (.int .i64 K) := hq.cell (World.cell?_alloc_mark w _ _ _ 0)
        go_wp2_with fail
        refine (within_any K 1 34 _).mono ?_
        rw [hwi]
        rintro e w3 ⟨rfl, hq3⟩
        clear hf hwi
        go_wp2_with fail
        go_ret
        exact ⟨ret_bool (by rw [HX.out]; rfl), b0.trans ((hq.trans hq3).below _)⟩
      · by_cases hT : T = []
        · by_cases hN : N = 0
          · have eN : (N == 0) = true := by rw [beq_iff_eq]; exact hN
            clear hN
            subst hT
            go_enter Tryd.func42, Tryd.ntmps42
            go_wp2_with fail
            refine (isFraction_any K _).mono ?_
            rw [hf]
            rintro e w2 ⟨rfl, hq⟩
            have c0 : w2.cell? ⟨w.heap.size, 0, none⟩ = some (.int .i64 K) := hq.cell (World.cell?_alloc_mark w _ _ _ 0)
            go_wp2_with fail
            refine (within_any K 1 34 _).mono ?_
            rw [hwi]
            rintro e w3 ⟨rfl, hq3⟩
            clear hf hwi
            have hc := b0.trans ((hq.trans hq3).below _)
            have d1 : w3.cell? ⟨w.heap.size, 1, none⟩ = some (.string ⟨List.toArray []⟩) := hq3.cell (hq.cell (World.cell?_alloc_mark w _ _ _ 1))
            have d2 : w3.cell? ⟨w.heap.size, 2, none⟩ = some (.int .i64 N) := hq3.cell (hq.cell (World.cell?_alloc_mark w _ _ _ 2))
            have d3 : w3.cell? ⟨w.heap.size, 3, none⟩ = some (.bool C) := hq3.cell (hq.cell (World.cell?_alloc_mark w _ _ _ 3))
            go_wp2_with fail
            go_ret
            exact ⟨ret_bool (by rw [HX.out, eN]; rfl), hc⟩
          · have eN : (N == 0) = false := by rw [beq_eq_false_iff_ne]; exact hN
            clear hN
            subst hT
            go_enter Tryd.func42, Tryd.ntmps42
            go_wp2_with fail
            refine (isFraction_any K _).mono ?_
            rw [hf]
            rintro e w2 ⟨rfl, hq⟩
            have c0 : w2.cell? ⟨w.heap.size, 0, none⟩ = some (.int .i64 K) := hq.cell (World.cell?_alloc_mark w _ _ _ 0)
            go_wp2_with fail
            refine (within_any K 1 34 _).mono ?_
            rw [hwi]
            rintro e w3 ⟨rfl, hq3⟩
            clear hf hwi
            have hc := b0.trans ((hq.trans hq3).below _)
            have d1 : w3.cell? ⟨w.heap.size, 1, none⟩ = some (.string ⟨List.toArray []⟩) := hq3.cell (hq.cell (World.cell?_alloc_mark w _ _ _ 1))
            have d2 : w3.cell? ⟨w.heap.size, 2, none⟩ = some (.int .i64 N) := hq3.cell (hq.cell (World.cell?_alloc_mark w _ _ _ 2))
            go_wp2_with fail
            go_ret
            exact ⟨ret_bool (by rw [HX.out, eN]; rfl), hc⟩
        · have hE : List.isEmpty T = false := by simpa using hT
          clear hT
          go_enter Tryd.func42, Tryd.ntmps42
          go_wp2_with fail
          refine (isFraction_any K _).mono ?_
          rw [hf]
          rintro e w2 ⟨rfl, hq⟩
          have c0 : w2.cell? ⟨w.heap.size, 0, none⟩ = some (.int .i64 K) := hq.cell (World.cell?_alloc_mark w _ _ _ 0)
          go_wp2_with fail
          refine (within_any K 1 34 _).mono ?_
          rw [hwi]
          rintro e w3 ⟨rfl, hq3⟩
          clear hf hwi
          have hc := b0.trans ((hq.trans hq3).below _)
          have d1 : w3.cell? ⟨w.heap.size, 1, none⟩ = some (.string ⟨List.toArray T⟩) := hq3.cell (hq.cell (World.cell?_alloc_mark w _ _ _ 1))
          go_wp2_with fail
          go_ret
          exact ⟨ret_bool (by rw [HX.out, hE]; rfl), hc⟩
    · have HX : Hid (Fs.pieceOk ⟨K, T, N, C⟩ = (T.isEmpty && Fs.within N 1 9)) := by show _ = _; simp [Fs.pieceOk, h0, hf]
      clear h0
      by_cases hT : T = []
      · subst hT
        go_enter Tryd.func42, Tryd.ntmps42
        go_wp2_with fail
        refine (isFraction_any K _).mono ?_
        rw [hf]
        rintro e w2 ⟨rfl, hq⟩
        clear hf
        have c1 : w2.cell? ⟨w.heap.size, 1, none⟩ = some (.string ⟨List.toArray []⟩) := hq.cell (World.cell?_alloc_mark w _ _ _ 1)
        have c2 : w2.cell? ⟨w.heap.size, 2, none⟩ = some (.int .i64 N) := hq.cell (World.cell?_alloc_mark w _ _ _ 2)
        go_wp2_with fail
        refine (within_any N 1 9 _).mono ?_
        rintro e w3 ⟨rfl, hq3⟩
        go_wp2_with fail
        go_ret
        exact ⟨ret_bool (by rw [HX.out]; rfl), b0.trans ((hq.trans hq3).below _)⟩
      · have hE : List.isEmpty T = false := by simpa using hT
        clear hT
        go_enter Tryd.func42, Tryd.ntmps42
        go_wp2_with fail
        refine (isFraction_any K _).mono ?_
        rw [hf]
        rintro e w2 ⟨rfl, hq⟩
        clear hf
        have c1 : w2.cell? ⟨w.heap.size, 1, none⟩ = some (.string ⟨List.toArray T⟩) := hq.cell (World.cell?_alloc_mark w _ _ _ 1)
        go_wp2_with fail
        go_ret
        exact ⟨ret_bool (by rw [HX.out, hE]; rfl), b0.trans (hq.below _)⟩

end Go.Proofs.YtjkfjlifcilejaaDoor
