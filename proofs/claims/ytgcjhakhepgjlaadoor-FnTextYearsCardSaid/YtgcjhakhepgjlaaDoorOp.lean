/-
  OPENING ARGUMENTS that are structs: pieces.
-/
import Derived.Test.YtgcjhakhepgjlaaDoorCom
import Derived.Lib.SmallJoins
import Derived.Deep.Slices
namespace Go.Proofs.YtgcjhakhepgjlaaDoor
open Go.ChangeShapes Go.WideShapes Go.ChangeAt Go.RowKit Go.Joins
set_option maxRecDepth 100000
set_option linter.unusedVariables false
set_option linter.unusedSimpArgs false

theorem civil_cells : Tryd.prog.cellsOf 27 = 9 := by kernel_rfl
theorem zone_cells : Tryd.prog.cellsOf 25 = 2 := by kernel_rfl
theorem array9 {α : Type} {cs : Array α} (h : cs.size = 9) : ∃ c0 c1 c2 c3 c4 c5 c6 c7 c8, cs = #[c0, c1, c2, c3, c4, c5, c6, c7, c8] := by
  obtain ⟨l⟩ := cs
  match l, h with
  | [c0, c1, c2, c3, c4, c5, c6, c7, c8], _ => exact ⟨c0, c1, c2, c3, c4, c5, c6, c7, c8, rfl⟩
theorem open_civil {H : Type} {enc : TypeId × Value → H} {W : World} {base b0 : Nat} {sp : Nat → Bool} {held : Bool} {v : Value} {d : DataW H} {p : List MemPlace} (hv : Value.okWide Tryd.prog W .any b0 27 v)
    (h : DataW.Trod enc Tryd.prog W base sp held 27 v d p) : ∃ (y m dd hh mi s ns : Int) (nm : List UInt8) (off : Int), v = .agg #[.int .i64 y, .int .i64 m, .int .i64 dd, .int .i64 hh, .int .i64 mi, .int .i64 s, .int .i64 ns, .string ⟨nm.toArray⟩, .int .i64 off] ∧ nm.length ≤ 9223372036854775807 ∧ (-9223372036854775808 ≤ off ∧ off ≤ 9223372036854775807) := by
  obtain ⟨cs, rfl, hsz⟩ := okWide_struct Tryd.underlying27 hv
  obtain ⟨c0, c1, c2, c3, c4, c5, c6, c7, c8, rfl⟩ := array9 (hsz.trans civil_cells)
  obtain ⟨fuel, hf⟩ := h
  obtain ⟨xs, n, _, _, hl, hlen, hg⟩ := DataW.trod_struct Tryd.underlying27 hf
  have z0 : Tryd.prog.cellsOf 3 = 1 := by kernel_rfl
  have z1 : Tryd.prog.cellsOf 9 = 1 := by kernel_rfl
  have z2 := zone_cells
  obtain ⟨x0, x1, x2, x3, x4, x5, x6, x7, rfl⟩ : ∃ x0 x1 x2 x3 x4 x5 x6 x7, xs = [x0, x1, x2, x3, x4, x5, x6, x7] := by
    match xs, hlen with
    | [x0, x1, x2, x3, x4, x5, x6, x7], _ => exact ⟨x0, x1, x2, x3, x4, x5, x6, x7, rfl⟩
  have g0 := hg 0 _ rfl
  have g1 := hg 1 _ rfl
  have g2 := hg 2 _ rfl
  have g3 := hg 3 _ rfl
  have g4 := hg 4 _ rfl
  have g5 := hg 5 _ rfl
  have g6 := hg 6 _ rfl
  have g7 := hg 7 _ rfl
  simp [z0, z1, z2, Value.cells] at g0 g1 g2 g3 g4 g5 g6 g7
  obtain ⟨a0, e0, -, -⟩ := DataW.trod_int Tryd.underlying3 g0
  obtain ⟨a1, e1, -, -⟩ := DataW.trod_int Tryd.underlying3 g1
  obtain ⟨a2, e2, -, -⟩ := DataW.trod_int Tryd.underlying3 g2
  obtain ⟨a3, e3, -, -⟩ := DataW.trod_int Tryd.underlying3 g3
  obtain ⟨a4, e4, -, -⟩ := DataW.trod_int Tryd.underlying3 g4
  obtain ⟨a5, e5, -, -⟩ := DataW.trod_int Tryd.underlying3 g5
  obtain ⟨a6, e6, -, -⟩ := DataW.trod_int Tryd.underlying3 g6
  obtain ⟨y0, y1, n', _, _, k0, k1⟩ := trod_struct2 Tryd.underlying25 g7
  simp [z0, z1] at k0 k1
  obtain ⟨⟨⟨T⟩⟩, e7, -, w7⟩ := DataW.trod_string Tryd.underlying9 k0
  obtain ⟨a8, e8, -, w8⟩ := DataW.trod_int Tryd.underlying3 k1
  simp at e0 e1 e2 e3 e4 e5 e6 e7 e8
  subst e0 e1 e2 e3 e4 e5 e6 e7 e8
  exact ⟨a0, a1, a2, a3, a4, a5, a6, T, a8, rfl, str_bound w7, bounds_i64 w8⟩
/-- a slice of bytes, by its cells -/
def PB (W : World) (ao : Option Addr) (l : List UInt8) : Prop := l = [] ∨ ∃ b o, ao = some ⟨b, o, none⟩ ∧ ∀ k (h : k < l.length), W.cell? ⟨b, o + k, none⟩ = some (.int .u8 (l[k].toNat : Int))
theorem open_bytes {H : Type} {enc : TypeId × Value → H} {W : World} {base b0 : Nat} {sp : Nat → Bool} {held : Bool} {v : Value} {d : DataW H} {p : List MemPlace} (hv : Value.okWide Tryd.prog W .any b0 47 v)
    (h : DataW.Trod enc Tryd.prog W base sp held 47 v d p) : ∃ (ao : Option Addr) (cap : Nat) (l : List UInt8), v = .slice ao l.length cap ∧ PB W ao l ∧ l.length ≤ 9223372036854775807 := by
  have byte_cells : Tryd.prog.cellsOf 5 = 1 := by kernel_rfl
  obtain ⟨fuel, hf⟩ := h
  obtain ⟨a0, len0, cap0, rfl⟩ := okWide_slice Tryd.underlying47 hv
  rcases Go.Deep.open_slice Tryd.underlying47 hf with ⟨hcs, -⟩ | ⟨a, len, cap, m, n, D, Pl, hcs, -, hlc, hcm, hm, -, hel⟩
  · simp only [Value.cells, List.cons.injEq, and_true, Value.slice.injEq] at hcs
    obtain ⟨rfl, rfl, rfl⟩ := hcs
    exact ⟨none, 0, [], rfl, .inl rfl, by simp⟩
  · simp only [Value.cells, List.cons.injEq, and_true, Value.slice.injEq] at hcs
    obtain ⟨rfl, rfl, rfl⟩ := hcs
    have hml : len0 ≤ m := by rw [hm]; split <;> omega
    have hmax : len0 ≤ 9223372036854775807 := by simp only [maxLen] at hcm; omega
    have key : ∀ i, i < len0 → ∃ q : UInt8, W.cell? (a.add i) = some (.int .u8 (q.toNat : Int)) := by
      intro i hi
      obtain ⟨cs, hc, ht⟩ := hel i (by omega)
      rw [byte_cells] at hc
      obtain ⟨_, hlen, hcell⟩ := World.cells?_some hc
      obtain ⟨x0, rfl⟩ : ∃ x0, cs = [x0] := by
        rcases cs with _ | ⟨x0, _ | ⟨x1, r⟩⟩ <;> simp at hlen
        exact ⟨x0, rfl⟩
      obtain ⟨K, e0, -, w0⟩ := DataW.trod_int Tryd.underlying5 ht
      simp at e0
      subst e0
      obtain ⟨q, rfl⟩ := byte_of w0
      have g0 := hcell 0 (by omega)
      refine ⟨q, ?_⟩
      simpa [Addr.add] using g0
    by_cases h0 : len0 = 0
    · subst h0
      exact ⟨some a, cap0, [], rfl, .inl rfl, by simp⟩
    · have hsp : a.spot = none := by
        obtain ⟨q, g⟩ := key 0 (by omega)
        obtain ⟨b, o, spot⟩ := a
        cases spot with
        | none => rfl
        | some s =>
          exfalso
          revert g
          unfold World.cell?
          simp only [Addr.add]
          split <;> simp
      obtain ⟨f, hf⟩ : ∃ f : Nat → UInt8, ∀ i, i < len0 → W.cell? (a.add i) = some (.int .u8 ((f i).toNat : Int)) :=
        ⟨fun i => if h : i < len0 then (key i h).choose else 0, fun i hi => by simp only [dif_pos hi]; exact (key i hi).choose_spec⟩
      refine ⟨some a, cap0, (List.range len0).map f, by simp, .inr ⟨a.block, a.off, ?_, fun k hk => ?_⟩, by simpa using hmax⟩
      · obtain ⟨b, o, spot⟩ := a
        simp only at hsp
        rw [hsp]
      · have := hf k (by simpa using hk)
        obtain ⟨b, o, spot⟩ := a
        simp only at hsp
        subst hsp
        rw [Addr.add_lit] at this
        simpa using this
end Go.Proofs.YtgcjhakhepgjlaaDoor
