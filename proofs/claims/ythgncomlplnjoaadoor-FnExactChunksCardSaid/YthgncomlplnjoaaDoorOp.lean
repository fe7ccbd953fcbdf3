/-
  OPENING ARGUMENTS that are structs: pieces.
-/
import Derived.Test.YthgncomlplnjoaaDoorCom
import Derived.Lib.SmallJoins
import Derived.Deep.Slices
import Derived.Test.YthgncomlplnjoaaDoorWy
namespace Go.Proofs.YthgncomlplnjoaaDoor
open Go.ChangeShapes Go.WideShapes Go.ChangeAt Go.RowKit Go.Joins
set_option linter.unusedVariables false

theorem piece_cells : Tryd.prog.cellsOf 32 = 4 := by kernel_rfl
theorem open_piece {H : Type} {enc : TypeId × Value → H} {W : World} {base b0 : Nat} {sp : Nat → Bool} {held : Bool} {v : Value} {d : DataW H} {p : List MemPlace} (hv : Value.okWide Tryd.prog W .any b0 32 v)
    (h : DataW.Trod enc Tryd.prog W base sp held 32 v d p) : ∃ (K : Int) (T : List UInt8) (N : Int) (C : Bool), v = .agg #[.int .i64 K, .string ⟨T.toArray⟩, .int .i64 N, .bool C] ∧ T.length ≤ 9223372036854775807 := by
  obtain ⟨v0, v1, v2, v3, y0, y1, y2, y3, m, rfl, rfl, rfl, h0, h1, h2, h3⟩ := open_agg4 Tryd.underlying32 (by kernel_rfl) piece_cells hv h
  obtain ⟨K, e0, rfl, w0⟩ := DataW.trod_int Tryd.underlying3 h0
  obtain ⟨⟨⟨T⟩⟩, e1, rfl, w1⟩ := DataW.trod_string Tryd.underlying9 h1
  obtain ⟨N, e2, rfl, w2⟩ := DataW.trod_int Tryd.underlying3 h2
  obtain ⟨C, e3, rfl⟩ := DataW.trod_bool Tryd.underlying4 h3
  simp at e0 e1 e2 e3
  subst e0 e1 e2 e3
  exact ⟨K, T, N, C, rfl, str_bound w1⟩
theorem open_pieces {H : Type} {enc : TypeId × Value → H} {W : World} {base b0 : Nat} {sp : Nat → Bool} {held : Bool} {v : Value} {d : DataW H} {p : List MemPlace} (hv : Value.okWide Tryd.prog W .any b0 37 v)
    (h : DataW.Trod enc Tryd.prog W base sp held 37 v d p) : ∃ (ao : Option Addr) (cap : Nat) (ps : List Fs.Piece), v = .slice ao ps.length cap ∧ PC W ao ps ∧ ps.length ≤ 9223372036854775807 := by
  obtain ⟨fuel, hf⟩ := h
  obtain ⟨a0, len0, cap0, rfl⟩ := okWide_slice Tryd.underlying37 hv
  rcases Go.Deep.open_slice Tryd.underlying37 hf with ⟨hcs, -⟩ | ⟨a, len, cap, m, n, D, Pl, hcs, -, hlc, hcm, hm, -, hel⟩
  · simp only [Value.cells, List.cons.injEq, and_true, Value.slice.injEq] at hcs
    obtain ⟨rfl, rfl, rfl⟩ := hcs
    exact ⟨none, 0, [], rfl, .inl rfl, by simp⟩
  · simp only [Value.cells, List.cons.injEq, and_true, Value.slice.injEq] at hcs
    obtain ⟨rfl, rfl, rfl⟩ := hcs
    have hml : len0 ≤ m := by rw [hm]; split <;> omega
    have hmax : len0 ≤ 9223372036854775807 := by simp only [maxLen] at hcm; omega
    have hsp : 0 < len0 → a.spot = none := by
      intro h0
      obtain ⟨cs, hc, ht⟩ := hel 0 (by omega)
      rw [piece_cells] at hc
      obtain ⟨_, hlen, hcell⟩ := World.cells?_some hc
      have g := hcell 0 (by omega)
      have e : cs[0]? = some (cs[0]'(by omega)) := List.getElem?_eq_getElem _
      rw [e] at g
      simp only [Nat.zero_mul, Addr.add, if_true] at g
      obtain ⟨b, o, spot⟩ := a
      cases spot with
      | none => rfl
      | some s =>
        exfalso
        revert g
        unfold World.cell?
        split <;> simp
    have key : ∀ i, i < len0 → ∃ q : Fs.Piece, a.spot = none ∧ PCell W a.block (a.off + i * 4) q := by
      intro i hi
      obtain ⟨cs, hc, ht⟩ := hel i (by omega)
      rw [piece_cells] at hc
      obtain ⟨_, hlen, hcell⟩ := World.cells?_some hc
      obtain ⟨y0, y1, y2, y3, n', _, _, h0, h1, h2, h3⟩ := trod_struct4 Tryd.underlying32 ht
      obtain ⟨x0, x1, x2, x3, rfl⟩ : ∃ x0 x1 x2 x3, cs = [x0, x1, x2, x3] := by
        rcases cs with _ | ⟨x0, _ | ⟨x1, _ | ⟨x2, _ | ⟨x3, _ | ⟨x4, r⟩⟩⟩⟩⟩ <;> simp at hlen
        exact ⟨x0, x1, x2, x3, rfl⟩
      have z0 : Tryd.prog.cellsOf 3 = 1 := by kernel_rfl
      have z1 : Tryd.prog.cellsOf 9 = 1 := by kernel_rfl
      have z2 : Tryd.prog.cellsOf 4 = 1 := by kernel_rfl
      obtain ⟨K, e0, -, -⟩ := DataW.trod_int Tryd.underlying3 h0
      obtain ⟨⟨⟨T⟩⟩, e1, -, -⟩ := DataW.trod_string Tryd.underlying9 h1
      obtain ⟨N, e2, -, -⟩ := DataW.trod_int Tryd.underlying3 h2
      obtain ⟨C, e3, -⟩ := DataW.trod_bool Tryd.underlying4 h3
      simp [z0, z1, z2] at e0 e1 e2 e3
      subst e0 e1 e2 e3
      have g0 := hcell 0 (by omega)
      have g1 := hcell 1 (by omega)
      have g2 := hcell 2 (by omega)
      have g3 := hcell 3 (by omega)
      have hs0 := hsp (by omega)
      obtain ⟨b, o, spot⟩ := a
      simp only at hs0
      subst hs0
      rw [Addr.add_lit, Addr.add_lit] at g0 g1 g2 g3
      exact ⟨⟨K, T, N, C⟩, rfl, g0, g1, g2, g3⟩
    by_cases h0 : len0 = 0
    · subst h0
      exact ⟨some a, cap0, [], rfl, .inl rfl, by simp⟩
    · obtain ⟨f, hf⟩ : ∃ f : Nat → Fs.Piece, ∀ i, i < len0 → a.spot = none ∧ PCell W a.block (a.off + i * 4) (f i) :=
        ⟨fun i => if h : i < len0 then (key i h).choose else ⟨0, [], 0, false⟩, fun i hi => by simp only [dif_pos hi]; exact (key i hi).choose_spec⟩
      have hsp := hsp (by omega)
      refine ⟨some a, cap0, (List.range len0).map f, by simp, .inr ⟨a.block, a.off, ?_, fun k hk => ?_⟩, by simpa using hmax⟩
      · obtain ⟨b, o, spot⟩ := a
        simp only at hsp
        rw [hsp]
      · have := (hf k (by simpa using hk)).2
        simpa using this
end Go.Proofs.YthgncomlplnjoaaDoor
