/-
  WALKS, lists of pieces that are written out (printed by wip/py/gen_laws_bytes.py).
-/
import Derived.Test.YtjkfjlifcilejaaDoorSi
import Derived.Test.YtjkfjlifcilejaaDoorSj
namespace Go.Proofs.YtjkfjlifcilejaaDoor
open Go.RowKit
set_option linter.unusedVariables false
set_option linter.unusedSimpArgs false
attribute [local go_sem] ByteArray.extract_mk get_mk ByteArray.toList_mk ByteArray.mk_append_mk take_drop_len

def pieceCells (p : Fs.Piece) : List Value := [.int .i64 p.kind, .string ⟨p.text.toArray⟩, .int .i64 p.n, .bool p.comma]
theorem flat_get : ∀ (ps : List Fs.Piece) (k : Nat) (hk : k < ps.length) (j : Nat) (hj : j < 4), (ps.flatMap pieceCells)[k * 4 + j]? = (pieceCells ps[k])[j]?
  | [], k, hk, _, _ => absurd hk (by simp)
  | p :: r, 0, _, j, hj => by
    simp only [List.flatMap_cons, Nat.zero_mul, Nat.zero_add, List.getElem_cons_zero]
    rw [List.getElem?_append_left (by simpa [pieceCells] using hj)]
  | p :: r, k + 1, hk, j, hj => by
    have ih := flat_get r k (by simpa using hk) j hj
    simp only [List.flatMap_cons, List.getElem_cons_succ]
    rw [List.getElem?_append_right (by simp [pieceCells]; omega), ← ih]
    congr 1
    simp [pieceCells]; omega
theorem pc_new (W : World) (ps : List Fs.Piece) (t : TypeId) : PC (W.alloc (.cells (ps.flatMap pieceCells).toArray t)) (some ⟨W.heap.size, 0, none⟩) ps := by
  refine .inr ⟨W.heap.size, 0, rfl, fun k hk => ?_⟩
  have hh : (W.alloc (.cells (ps.flatMap pieceCells).toArray t)).heap[W.heap.size]? = some (.cells (ps.flatMap pieceCells).toArray t (0, 0)) := heap_alloc_new W _
  have key : ∀ j, j < 4 → (W.alloc (.cells (ps.flatMap pieceCells).toArray t)).cell? ⟨W.heap.size, 0 + k * 4 + j, none⟩ = (pieceCells ps[k])[j]? := by
    intro j hj
    rw [cell_of_row _ _ _ _ t (0, 0) hh, Nat.zero_add, ← flat_get ps k hk j hj]
    simp
  exact ⟨key 0 (by omega), key 1 (by omega), key 2 (by omega), key 3 (by omega)⟩
theorem pieces_ok2 : ∀ {prev : Option Fs.Piece} {ps : List Fs.Piece}, Fs.allFrom prev ps = true → ∀ p ∈ ps, Fs.pieceOk p = true
  | _, [], _ => by simp
  | _, p :: r, h => by
    simp only [Fs.allFrom, Fs.stepOk, Bool.and_eq_true] at h
    intro q hq
    rcases List.mem_cons.1 hq with rfl | hq
    · exact h.1.1
    · exact pieces_ok2 h.2 q hq
theorem pieces_of {ps : List Fs.Piece} (h : Fs.piecesOk ps = true) : (∀ p ∈ ps, Fs.pieceOk p = true) ∧ ps.length ≤ 100 := by
  simp only [Fs.piecesOk, Bool.and_eq_true, decide_eq_true_eq] at h
  exact ⟨pieces_ok2 h.1.1, h.1.2⟩
theorem piece_text_le {p : Fs.Piece} (h : Fs.pieceOk p = true) : p.text.length ≤ 1000 := by
  by_cases h0 : p.kind = 0
  · have := Fs.piece_plain h h0
    simp only [Fs.plain, Bool.and_eq_true, decide_eq_true_eq] at this
    exact this.2
  · obtain ⟨K, T, N, C⟩ := p
    simp only at h0
    have : T = [] := by
      by_cases h3 : Fs.isFraction K = true
      · exact (show T = [] ∧ 1 ≤ N ∧ N ≤ 9 by simpa [Fs.pieceOk, h0, h3, Fs.within] using h).1
      · simp [Fs.pieceOk, h0, h3] at h
        exact h.1.1.2
    simp [this]
/-- bytes read as a text, in whatever world they lie -/
theorem bytes_back (ao : Option Addr) (cap : Nat) (l : List UInt8) (w' : World) (h : Hid (PB w' ao l)) : (convert 43 9 (.slice ao l.length cap)).run Tryd.prog w' = .ok (.string ⟨l.toArray⟩) w' := by
  cases ao with
  | none =>
    obtain rfl : l = [] := by
      rcases h.out with h | ⟨b, o, e, _⟩
      · exact h
      · cases e
    exact run_convert_bytes_nil (P := Tryd.prog) w' 43 5 Tryd.underlying43 Tryd.underlying5 0 cap 9 Tryd.underlying9
  | some a =>
    refine run_convert_bytes_back (P := Tryd.prog) w' 43 9 5 a cap l Tryd.underlying43 Tryd.underlying5 Tryd.underlying9 (fun j hj => ?_)
    rcases h.out with h0 | ⟨b, o, e, hc⟩
    · subst h0; exact absurd hj (by simp)
    · obtain rfl := Option.some.inj e
      rw [Addr.add_lit]
      exact hc j hj
theorem RowAt.below' {w w' : World} {base g o c : Nat} {l : List UInt8} (h : RowAt w base l g o c) (hb : Below w.heap.size w w') : RowAt w' base l g o c := by
  rcases Nat.eq_zero_or_pos c with h0 | hp
  · subst h0
    have : l = [] := by have := h.le; simpa using this
    subst this
    exact ⟨h.ge, h.le, h.max, fun j hj => absurd hj (by simp), fun j hj => absurd hj (by simp)⟩
  · exact h.block (hb.block g (h.lt hp))
theorem row_back (w' : World) {base g o c : Nat} {l : List UInt8} (h : RowAt w' base l g o c) : (convert 43 9 (.slice (some ⟨g, o, none⟩) l.length c)).run Tryd.prog w' = .ok (.string ⟨l.toArray⟩) w' :=
  string_row (P := Tryd.prog) w' 43 9 5 h Tryd.underlying43 Tryd.underlying5 Tryd.underlying9
set_option maxRecDepth 100000 in
theorem RFC3339_pieces (w : World) : Calls Tryd.prog 32 #[] w fun e w' => ∃ b, e = .returned (.slice (some ⟨b, 0, none⟩) 12 12) ∧ PC w' (some ⟨b, 0, none⟩) Fs.rfcP ∧ Below w.heap.size w w' := by
  have hp := pc_new w Fs.rfcP 34
  have hb := (Below.refl w.heap.size w).alloc (Nat.le_refl _) (Obj.cells (Fs.rfcP.flatMap pieceCells).toArray 34)
  go_enter Tryd.func32, Tryd.ntmps32
  go_wp2_with fail
  go_ret
  exact ⟨w.heap.size, rfl, hp, hb⟩
set_option maxRecDepth 100000 in
theorem RFC3339Nano_pieces (w : World) : Calls Tryd.prog 33 #[] w fun e w' => ∃ b, e = .returned (.slice (some ⟨b, 0, none⟩) 13 13) ∧ PC w' (some ⟨b, 0, none⟩) Fs.rfcPN ∧ Below w.heap.size w w' := by
  have hp := pc_new w Fs.rfcPN 34
  have hb := (Below.refl w.heap.size w).alloc (Nat.le_refl _) (Obj.cells (Fs.rfcPN.flatMap pieceCells).toArray 34)
  go_enter Tryd.func33, Tryd.ntmps33
  go_wp2_with fail
  go_ret
  exact ⟨w.heap.size, rfl, hp, hb⟩
end Go.Proofs.YtjkfjlifcilejaaDoor
