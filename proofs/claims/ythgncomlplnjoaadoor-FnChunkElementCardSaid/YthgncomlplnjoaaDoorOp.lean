/-
  OPENING ARGUMENTS that are structs: pieces.
-/
import Derived.Test.YthgncomlplnjoaaDoorCom
import Derived.Lib.SmallJoins
namespace Go.Proofs.YthgncomlplnjoaaDoor
open Go.ChangeShapes Go.WideShapes Go.ChangeAt Go.RowKit Go.Joins
set_option linter.unusedVariables false

theorem piece_cells : Tryd.prog.cellsOf 32 = 4 := by kernel_rfl
theorem open_piece {H : Type} {enc : TypeId × Value → H} {W : World} {base b0 : Nat} {sp : Nat → Bool} {held : Bool} {v : Value} {d : DataW H} {p : List MemPlace} (hv : Value.okWide Tryd.prog W .any b0 32 v)
    (h : DataW.Trod enc Tryd.prog W base sp held 32 v d p) : ∃ (K : Int) (T : List UInt8) (N : Int) (C : Bool), v = .agg #[.int .i64 K, .string ⟨T.toArray⟩, .int .i64 N, .bool C] ∧ T.length ≤ 9223372036854775807 := by
  obtain ⟨v0, v1, v2, v3, y0, y1, y2, y3, m, rfl, rfl, rfl, h0, h1, h2, h3⟩ := open_agg4 Tryd.underlying32 (by kernel_rfl) piece_cells hv h
  obtain ⟨K, e0, rfl, w0⟩ := DataW.trod_int Tryd.underlying3 h0
  obtain ⟨⟨⟨T⟩⟩, e1, rfl, w1⟩ := DataW.trod_string Tryd.underlying9 h1
  obtain ⟨N, e2, rfl, w2⟩ := DataW.trod_int Tryd.underlying3 h2
  obtain ⟨C, e3, rfl⟩ := DataW.trod_bool Tryd.underlying4 h3
  simp at e0 e1 e2 e3
  subst e0 e1 e2 e3
  exact ⟨K, T, N, C, rfl, str_bound w1⟩
end Go.Proofs.YthgncomlplnjoaaDoor
