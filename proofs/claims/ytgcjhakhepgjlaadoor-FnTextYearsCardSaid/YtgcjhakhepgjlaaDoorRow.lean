/-
  A SLICE OF BYTES THAT THE CALL HAS MADE, TOLD BY ITS CELLS: whatever laid it (a conversion, make, an append), whatever marks its block bears. No program is asked.
-/
import Derived.ArgAppend
import Derived.Below
import Derived.Laws.IdiomStrings
import Derived.Laws.OwnMore
namespace Go.Proofs.YtgcjhakhepgjlaaDoor
open Go.RowKit
set_option linter.unusedVariables false

structure RowAt (w : World) (base : Nat) (l : List UInt8) (g off cap : Nat) : Prop where
  ge : base ≤ g
  le : l.length ≤ cap
  max : cap ≤ maxLen
  cells : ∀ j (h : j < l.length), w.cell? ⟨g, off + j, none⟩ = some (.int .u8 (l[j].toNat : Int))
  there : ∀ j, j < cap → (w.cell? ⟨g, off + j, none⟩).isSome = true ∧ w.frozen? ⟨g, off + j, none⟩ = false
/-- the slice value v holds the bytes l, in a block of number base or above -/
def Row (w : World) (base : Nat) (v : Value) (l : List UInt8) : Prop := ∃ g off cap, v = .slice (some ⟨g, off, none⟩) l.length cap ∧ RowAt w base l g off cap

theorem RowAt.block {w w' : World} {base g off cap : Nat} {l : List UInt8} (h : RowAt w base l g off cap) (hb : w'.heap[g]? = w.heap[g]?) : RowAt w' base l g off cap :=
  ⟨h.ge, h.le, h.max, fun j hj => by rw [World.cell?_of_block (w := w) (a := ⟨g, off + j, none⟩) hb]; exact h.cells j hj,
    fun j hj => by rw [World.cell?_of_block (w := w) (a := ⟨g, off + j, none⟩) hb, World.frozen?_of_block (w := w) (a := ⟨g, off + j, none⟩) hb]; exact h.there j hj⟩
/-- the block is there, if there is a cell of it -/
theorem RowAt.lt {w : World} {base g off cap : Nat} {l : List UInt8} (h : RowAt w base l g off cap) (hc : 0 < cap) : g < w.heap.size := by
  obtain ⟨v, hv⟩ := Option.isSome_iff_exists.1 (h.there 0 hc).1
  exact World.block_lt_of_cell? w ⟨g, off + 0, none⟩ hv
theorem Row.below {w w' : World} {base : Nat} {v : Value} {l : List UInt8} (h : Row w base v l) (hb : Below w.heap.size w w') : Row w' base v l := by
  obtain ⟨g, off, cap, rfl, hr⟩ := h
  refine ⟨g, off, cap, rfl, ?_⟩
  rcases Nat.eq_zero_or_pos cap with h0 | hp
  · subst h0
    have : l = [] := by have := hr.le; simpa using this
    subst this
    exact ⟨hr.ge, hr.le, hr.max, fun j hj => absurd hj (by simp), fun j hj => absurd hj (by simp)⟩
  · exact hr.block (hb.block g (hr.lt hp))
theorem Row.alloc {w : World} {base : Nat} {v : Value} {l : List UInt8} (h : Row w base v l) (o : Obj) : Row (w.alloc o) base v l := h.below ((Below.refl _ _).alloc (Nat.le_refl _) o)
theorem Row.drew {w : World} {base : Nat} {v : Value} {l : List UInt8} (h : Row w base v l) : Row w.drew base v l := h.below (Below.refl _ _).drew

theorem below_setCells' {B g : Nat} (hg : B ≤ g) : ∀ (vs : List Value) (o : Nat) (w : World), Below B w (w.setCells g o vs)
  | [], _, w => Below.refl _ _
  | v :: r, o, w => ((Below.refl B w).setCell (p := ⟨g, o, none⟩) hg v).trans (below_setCells' hg r (o + 1) _)

def byteVals (l : List UInt8) : List Value := l.map fun c => Value.int .u8 (c.toNat : Int)
theorem byteVals_len (l : List UInt8) : (byteVals l).length = l.length := by simp [byteVals]
theorem byteVals_get {l : List UInt8} {j : Nat} {u : Value} (h : (byteVals l)[j]? = some u) : ∃ hj : j < l.length, u = .int .u8 (l[j].toNat : Int) := by
  have hj : j < l.length := by
    have := (List.getElem?_eq_some_iff.1 h).1
    simpa [byteVals] using this
  refine ⟨hj, ?_⟩
  simp [byteVals, List.getElem?_eq_getElem hj] at h
  exact h.symm

theorem run_append_row {P : Program} (w : World) (t ty e : TypeId) (i : TypeInfo) (z : Value) (ht : P.underlying t = some (.slice e)) (hi : P.info? e = some i) (hz : i.zero = some z)
    (hsize : i.size = 1) (hby : i.bytes = 1) (hzs : z.cells.size = 1) {base : Nat} {v : Value} {l : List UInt8} (h : Row w base v l) (hb : base ≤ w.heap.size)
    (ad : Addr) (m c : Nat) (news : List UInt8) (hm : news.length = m) (hnews : ∀ j (h : j < news.length), w.cell? (ad.add j) = some (.int .u8 (news[j].toNat : Int)))
    (hlen : l.length + news.length ≤ 140737488355328) :
    ∃ v' w', (Builtin.append_ #[t, t] ty #[v, .slice (some ad) m c]).run P w = .ok v' w' ∧ Row w' base v' (l ++ news) ∧ Below base w w' := by
  subst hm
  obtain ⟨g, off, cap, rfl, hr⟩ := h
  have hN : ∀ j u, (byteVals news)[j]? = some u → w.cell? (ad.add j) = some u := fun j u hu => by
    obtain ⟨hj, rfl⟩ := byteVals_get hu
    exact hnews j hj
  by_cases hroom : l.length + news.length ≤ cap
  · have hrun := run_append_room_cells (P := P) (ty := ty) w t e i ht hi g off l.length cap ad news.length c (byteVals news) (by rw [byteVals_len, hsize, Nat.mul_one]) hN
      (fun u hu => by simp [byteVals] at hu; obtain ⟨x, _, rfl⟩ := hu; rfl) hroom
      (fun j hj => by rw [byteVals_len] at hj; rw [hsize, Nat.mul_one, Nat.add_assoc]; exact (hr.there _ (by omega)).1)
      (fun j hj => by rw [byteVals_len] at hj; rw [hsize, Nat.mul_one, Nat.add_assoc]; exact (hr.there _ (by omega)).2)
    rw [hsize, Nat.mul_one] at hrun
    refine ⟨_, _, hrun, ⟨g, off, cap, by rw [List.length_append], hr.ge, by rw [List.length_append]; exact hroom, hr.max, fun j hj => ?_, fun j hj => ?_⟩, below_setCells' hr.ge _ _ _⟩
    · by_cases hj1 : j < l.length
      · rw [World.cell?_setCells_out g _ _ _ _ (fun _ _ => Or.inl (by show off + j < off + l.length; omega)), hr.cells j hj1, List.getElem_append_left hj1]
      · have hj2 : j - l.length < news.length := by rw [List.length_append] at hj; omega
        have := World.cell?_setCells_in g (byteVals news) (off + l.length) w (fun k hk => by rw [byteVals_len] at hk; rw [Nat.add_assoc]; exact (hr.there _ (by omega)).1) (j - l.length) (by rw [byteVals_len]; exact hj2)
        rw [show off + l.length + (j - l.length) = off + j by omega] at this
        rw [this, List.getElem_append_right (by omega)]
        simp [byteVals]
    · rw [World.frozen?_setCells]
      refine ⟨?_, (hr.there j hj).2⟩
      by_cases hin : l.length ≤ j ∧ j < l.length + news.length
      · have := World.cell?_setCells_in g (byteVals news) (off + l.length) w (fun k hk => by rw [byteVals_len] at hk; rw [Nat.add_assoc]; exact (hr.there _ (by omega)).1) (j - l.length) (by rw [byteVals_len]; omega)
        rw [show off + l.length + (j - l.length) = off + j by omega] at this
        rw [this]; rfl
      · rw [World.cell?_setCells_out g _ _ _ _ (fun _ _ => by rw [byteVals_len]; show off + j < off + l.length ∨ off + l.length + news.length ≤ off + j; omega)]
        exact (hr.there j hj).1
  · obtain ⟨v', w', hrun, ho, hgr⟩ := run_append_arg_grows (P := P) (ty := ty) w t e i z 1 1 ht hi hz hsize hby hzs (by omega) ⟨g, off, none⟩ l.length cap (byteVals l) (by rw [byteVals_len, Nat.mul_one])
      (fun j u hu => by obtain ⟨hj, rfl⟩ := byteVals_get hu; rw [Addr.add_lit]; exact hr.cells j hj) ad news.length c (byteVals news) (by rw [byteVals_len, Nat.mul_one]) hN (by omega) (by unfold maxLen; omega) (by omega)
    have hbel : Below base w w' := (Below.refl base w).grown hgr hb (by simp)
    rcases ho.2 with ⟨_, h0⟩ | ⟨g', cap', cur, rfl, hge, hg', hnc, hcm, hcs, htk⟩
    · exact ⟨v', w', hrun, by
        exfalso
        have := hr.le
        omega, hbel⟩
    · refine ⟨_, w', hrun, ⟨g', 0, cap', by rw [List.length_append], Nat.le_trans hb hge, by rw [List.length_append]; exact hnc, hcm, fun j hj => ?_, fun j hj => ?_⟩, hbel⟩
      · rw [Nat.zero_add, ho.cellAt j (by rw [List.length_append] at hj; omega)]
        have : byteVals l ++ byteVals news = byteVals (l ++ news) := by simp [byteVals]
        rw [this]
        unfold byteVals
        rw [List.getElem?_map, List.getElem?_eq_getElem hj]; rfl
      · rw [Nat.zero_add]
        refine ⟨?_, frozen_of_row w' g' j cur e hg'⟩
        rw [cell_of_row w' g' j cur e (0, 0) hg']
        rw [Array.getElem?_eq_getElem (by rw [hcs]; omega)]
        rfl

theorem wpList_append_row {P : Program} (w : World) {ops : Array Oper} {rest : List Oper} {o : Oper} {a : Act} {Q : Exit → Act → World → Prop} (hgd : o.guard = none) (s x : Operand) (t : TypeId)
    (ho : o.op = .call { callee := .builtin .append, args := #[s, x], argTypes := #[t, t] }) (e : TypeId) (i : TypeInfo) (z : Value) (ht : P.underlying t = some (.slice e)) (hi : P.info? e = some i) (hz : i.zero = some z)
    (hsize : i.size = 1) (hby : i.bytes = 1) (hzs : z.cells.size = 1) {base : Nat} {v : Value} {l : List UInt8} (hs : a.eval s = v) (h : Row w base v l) (hb : base ≤ w.heap.size)
    (ad : Addr) (m c : Nat) (news : List UInt8) (hx : a.eval x = .slice (some ad) m c) (hm : news.length = m) (hnews : ∀ j (h : j < news.length), w.cell? (ad.add j) = some (.int .u8 (news[j].toNat : Int)))
    (hlen : l.length + news.length ≤ 140737488355328)
    (hK : ∀ v' w', Row w' base v' (l ++ news) → Below base w w' → wpList P ops Q rest (a.put o.dst v') w') : wpList P ops Q (o :: rest) a w := by
  refine wpList_plain hgd fun K hK' => ?_
  obtain ⟨v', w', hrun, r1, r2⟩ := run_append_row (P := P) w t o.type e i z ht hi hz hsize hby hzs h hb ad m c news hm hnews hlen
  unfold Oper.wp
  simp [execOp, ho, resolve, invoke, builtin, hs, hx, hrun, Result.andThen]
  exact hK' _ _ (hK v' w' r1 r2)

/-- '[]byte(s)' -/
theorem bytes_row {P : Program} (w : World) (src dst e : TypeId) (l : List UInt8) (hl : l.length ≤ maxLen) (hs : P.underlying src = some .string) (hd : P.underlying dst = some (.slice e)) (he : P.underlying e = some (.int .u8)) :
    ∃ g cap W, (convert src dst (.string ⟨l.toArray⟩)).run P w = .ok (.slice (some ⟨g, 0, none⟩) l.length cap) W ∧ RowAt W w.heap.size l g 0 cap ∧ Below w.heap.size w W := by
  have h := run_bytes_of_string (P := P) w src dst e ⟨l.toArray⟩ hs hd he
  have hsz : (⟨l.toArray⟩ : ByteArray).size = l.length := rfl
  rw [hsz] at h
  have hge := grownCap_ge w l.length 0 e
  have hle := grownCap_le_maxLen w l.length 0 e hl
  generalize grownCap w l.length 0 e = cap at h hge hle
  have hsize : (bytesRow ⟨l.toArray⟩ cap).size = cap := by
    simp only [bytesRow, Array.size_append, Array.size_map, Array.size_replicate, hsz, List.size_toArray]
    omega
  have hcell : ∀ j (hj : j < l.length), (bytesRow ⟨l.toArray⟩ cap)[j]? = some (.int .u8 (l[j].toNat : Int)) := fun j hj => by
    simp only [bytesRow]
    rw [Array.getElem?_append_left (by simpa using hj)]
    simp [hj]
  generalize bytesRow ⟨l.toArray⟩ cap = row at h hsize hcell
  have hh : (w.drew.alloc (.cells row e (row.size, row.size + 1))).heap[w.heap.size]? = some (.cells row e (row.size, row.size + 1)) := heap_alloc_new w.drew _
  refine ⟨_, _, _, h, ⟨Nat.le_refl _, hge, hle, fun j hj => ?_, fun j hj => ?_⟩, ((Below.refl w.heap.size w).drew).alloc (Nat.le_refl _) _⟩
  · rw [Nat.zero_add]
    unfold World.cell?
    rw [hh]
    exact hcell j hj
  · rw [Nat.zero_add]
    refine ⟨?_, ?_⟩
    · unfold World.cell?
      rw [hh]
      show (row[j]?).isSome = true
      rw [Array.getElem?_eq_getElem (by omega)]; rfl
    · unfold World.frozen?
      rw [hh]
      simp only [Bool.and_eq_false_iff, decide_eq_false_iff_not]
      left
      omega
/-- 'string(b)' -/
theorem string_row {P : Program} (w : World) (src dst e : TypeId) {base g off cap : Nat} {l : List UInt8} (h : RowAt w base l g off cap) (hs : P.underlying src = some (.slice e)) (he : P.underlying e = some (.int .u8)) (hd : P.underlying dst = some .string) :
    (convert src dst (.slice (some ⟨g, off, none⟩) l.length cap)).run P w = .ok (.string ⟨l.toArray⟩) w :=
  run_convert_bytes_back (P := P) w src dst e ⟨g, off, none⟩ cap l hs he hd (fun j hj => by rw [Addr.add_lit]; exact h.cells j hj)
end Go.Proofs.YtgcjhakhepgjlaaDoor
