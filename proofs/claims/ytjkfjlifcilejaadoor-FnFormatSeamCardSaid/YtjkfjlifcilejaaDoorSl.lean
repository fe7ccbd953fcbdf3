/-
  WALKS: slices of pieces are appended.
-/
import Derived.Test.YtjkfjlifcilejaaDoorSk
namespace Go.Proofs.YtjkfjlifcilejaaDoor
open Go.RowKit
set_option linter.unusedVariables false
set_option linter.unusedSimpArgs false
attribute [local go_sem] ByteArray.extract_mk get_mk ByteArray.toList_mk ByteArray.mk_append_mk take_drop_len

theorem info_piece : (Tryd.prog.info? 34).map (fun i => (i.zero, i.size, i.bytes)) = some (some (.agg #[.int .i64 0, .string ⟨#[]⟩, .int .i64 0, .bool false]), 4, 40) := by kernel_rfl
theorem info_parts4 {o : Option TypeInfo} {z : Value} {s b : Nat} (h : o.map (fun i => (i.zero, i.size, i.bytes)) = some (some z, s, b)) : ∃ i, o = some i ∧ i.zero = some z ∧ i.size = s ∧ i.bytes = b := by
  cases o with
  | none => cases h
  | some i =>
    simp only [Option.map_some, Option.some.injEq, Prod.mk.injEq] at h
    exact ⟨i, rfl, h.1, h.2.1, h.2.2⟩
theorem flat_len : ∀ ps : List Fs.Piece, (ps.flatMap pieceCells).length = ps.length * 4
  | [] => rfl
  | p :: r => by simp only [List.flatMap_cons, List.length_append, flat_len r, List.length_cons]; simp [pieceCells]; omega
theorem flat_one : ∀ ps : List Fs.Piece, ∀ u ∈ ps.flatMap pieceCells, u.oneCell' = true := by
  intro ps u hu
  obtain ⟨p, _, hp⟩ := List.mem_flatMap.1 hu
  simp only [pieceCells, List.mem_cons, List.not_mem_nil, or_false] at hp
  rcases hp with rfl | rfl | rfl | rfl <;> rfl
/-- the pieces ps lie in a slice that the call has made -/
structure PRow (w : World) (base : Nat) (v : Value) (ps : List Fs.Piece) : Prop where
  own : w.ownsRow base 34 4 v ps.length (ps.flatMap pieceCells)
  ptr : ∃ g cap, v = .slice (some ⟨g, 0, none⟩) ps.length cap
theorem PRow.pc {w : World} {base g n cap : Nat} {ps : List Fs.Piece} (h : PRow w base (.slice (some ⟨g, 0, none⟩) n cap) ps) : PC w (some ⟨g, 0, none⟩) ps := by
  have hc := h.own.cells (g := g) rfl
  refine .inr ⟨g, 0, rfl, fun k hk => ?_⟩
  have key : ∀ j (hj : j < 4) u, (pieceCells ps[k])[j]? = some u → w.cell? ⟨g, 0 + k * 4 + j, none⟩ = some u := by
    intro j hj u hu
    have := hc (k * 4 + j) u (by rw [flat_get ps k hk j hj]; exact hu)
    rw [Addr.add_lit] at this
    rw [Nat.add_assoc]
    exact this
  exact ⟨key 0 (by omega) _ rfl, key 1 (by omega) _ rfl, key 2 (by omega) _ rfl, key 3 (by omega) _ rfl⟩
theorem PRow.blank (w : World) (base : Nat) (hb : base ≤ w.heap.size) : PRow (w.alloc (.cells #[] 34)) base (.slice (some ⟨w.heap.size, 0, none⟩) 0 0) [] :=
  ⟨⟨rfl, .inr ⟨w.heap.size, 0, #[], rfl, hb, heap_alloc_new w _, Nat.le_refl _, by simp [maxLen], rfl, rfl⟩⟩, ⟨w.heap.size, 0, rfl⟩⟩
theorem run_append_pieces (w : World) (ty : TypeId) {base : Nat} {v : Value} {qs : List Fs.Piece} (h : PRow w base v qs) (hb : base ≤ w.heap.size) (po : Option Addr) (c : Nat) (ps : List Fs.Piece) (hQ : PC w po ps) (hlen : qs.length + ps.length ≤ 3000000000000) :
    ∃ v' w', (Builtin.append_ #[31, 31] ty #[v, .slice po ps.length c]).run Tryd.prog w = .ok v' w' ∧ PRow w' base v' (qs ++ ps) ∧ Below base w w' := by
  obtain ⟨i, hi, hz, hs, hby⟩ := info_parts4 info_piece
  obtain ⟨ho, g, cap, rfl⟩ := h
  have hgb : base ≤ g := by
    rcases ho.2 with ⟨h, _⟩ | ⟨g', _, _, e, hbg, _⟩
    · cases h
    · injection e with e1; injection e1 with e2; injection e2 with e3; rw [e3]; exact hbg
  cases po with
  | none =>
    obtain rfl : ps = [] := by
      rcases hQ with h | ⟨b, o, e, _⟩
      · exact h
      · cases e
    have hle : qs.length ≤ cap := by
      rcases ho.2 with ⟨h, _⟩ | ⟨g', cap', _, e, _, _, hn, _⟩
      · cases h
      · injection e with e1 e2 e3; rw [e3]; exact hn
    have hrun := run_append_room_src (P := Tryd.prog) w 31 31 ty 34 i Tryd.underlying31 hi g 0 qs.length cap (.slice none 0 c) 0 [] (Src.ofNil w Tryd.underlying31 c) hle (fun j hj => absurd hj (by simp)) (fun j hj => absurd hj (by simp))
    refine ⟨_, _, hrun, ?_, ?_⟩
    · rw [List.append_nil]
      exact ⟨ho, g, cap, rfl⟩
    · exact Below.refl _ _
  | some a =>
    have hnews : ∀ j u, (ps.flatMap pieceCells)[j]? = some u → w.cell? (a.add j) = some u := by
      intro j u hu
      rcases hQ with h | ⟨b, o, e, hc⟩
      · subst h; cases hu
      · obtain rfl := Option.some.inj e
        have hj : j < ps.length * 4 := by
          have := (List.getElem?_eq_some_iff.1 hu).1
          rwa [flat_len] at this
        have hk : j / 4 < ps.length := by omega
        have hr : j % 4 < 4 := by omega
        have he : j = j / 4 * 4 + j % 4 := by omega
        have hf := flat_get ps (j / 4) hk (j % 4) hr
        rw [← he, hu] at hf
        obtain ⟨p0, p1, p2, p3⟩ := hc (j / 4) hk
        rw [Addr.add_lit]
        have hcase : j % 4 = 0 ∨ j % 4 = 1 ∨ j % 4 = 2 ∨ j % 4 = 3 := by omega
        rcases hcase with h | h | h | h <;> rw [h] at hf <;> simp only [pieceCells, List.getElem?_cons_zero, List.getElem?_cons_succ, Option.some.injEq] at hf <;> rw [hf]
        · rw [show o + j = o + j / 4 * 4 by omega]; exact p0
        · rw [show o + j = o + j / 4 * 4 + 1 by omega]; exact p1
        · rw [show o + j = o + j / 4 * 4 + 2 by omega]; exact p2
        · rw [show o + j = o + j / 4 * 4 + 3 by omega]; exact p3
    obtain ⟨v', w', hrun, r1, r2, r3⟩ := run_append_own (P := Tryd.prog) w base 31 ty 34 i _ 4 40 Tryd.underlying31 hi hz hs hby rfl (by omega) _ _ _ ho a ps.length c (ps.flatMap pieceCells) (flat_len ps) hnews (flat_one ps) (by simp [maxLen]; omega) (by omega) hb
    refine ⟨v', w', hrun, ⟨by rw [List.length_append, List.flatMap_append]; exact r1, ?_⟩, (Below.refl base w).grown r2 hb (fun g' e => by rw [← Option.some.inj e]; exact hgb)⟩
    rcases r1.2 with ⟨h, _⟩ | ⟨g', cap', _, e, _⟩
    · have := (r3.1 h).1
      cases this
    · exact ⟨g', cap', by rw [e, List.length_append]⟩
theorem wpList_append_pieces (w : World) {ops : Array Oper} {rest : List Oper} {o : Oper} {a : Act} {Q : Exit → Act → World → Prop} (hgd : o.guard = none) (s x : Operand)
    (ho : o.op = .call { callee := .builtin .append, args := #[s, x], argTypes := #[31, 31] }) {base : Nat} {v : Value} {qs : List Fs.Piece} (hs : a.eval s = v) (h : PRow w base v qs) (hb : base ≤ w.heap.size)
    (po : Option Addr) (c : Nat) (ps : List Fs.Piece) (hx : a.eval x = .slice po ps.length c) (hQ : PC w po ps) (hlen : qs.length + ps.length ≤ 3000000000000)
    (hK : ∀ v' w', PRow w' base v' (qs ++ ps) → Below base w w' → wpList Tryd.prog ops Q rest (a.put o.dst v') w') : wpList Tryd.prog ops Q (o :: rest) a w := by
  obtain ⟨v', w', hrun, r1, r2⟩ := run_append_pieces w o.type h hb po c ps hQ hlen
  exact Lib.wpList_append_run w hgd s x 31 31 ho v _ hs hx v' w' hrun (hK v' w' r1 r2)
end Go.Proofs.YtjkfjlifcilejaaDoor
