/-
  A SLICE OF BYTES THAT THE CALL HAS MADE, more: appends of texts and of zeros, and a row that is filled from its end. No program is asked.
-/
import Derived.Test.YtgcjhakhepgjlaaDoorRow
import Derived.Deep.AppendSrc
import Derived.Lib.AppendZerosOnto
import Derived.Test.YtgcjhakhepgjlaaDoorT1
namespace Go.Proofs.YtgcjhakhepgjlaaDoor
open Go.RowKit
set_option linter.unusedVariables false

theorem Row.max {w : World} {base : Nat} {v : Value} {l : List UInt8} (h : Row w base v l) : l.length ≤ maxLen := by
  obtain ⟨g, off, cap, _, hr⟩ := h
  exact Nat.le_trans hr.le hr.max
theorem byteVals_one (l : List UInt8) : ∀ u ∈ byteVals l, u.oneCell' = true := fun u hu => by
  simp [byteVals] at hu
  obtain ⟨x, _, rfl⟩ := hu
  rfl
/-- what has been laid into a new block reads as a row -/
theorem rowAt_new (w : World) (l : List UInt8) (rest : Array Value) (e : TypeId) (base : Nat) (hb : base ≤ w.heap.size) (n : Nat) (hn : n = l.length + rest.size) (hmax : n ≤ maxLen) :
    RowAt (w.alloc (.cells ((byteVals l).toArray ++ rest) e)) base l w.heap.size 0 n := by
  have hh : (w.alloc (.cells ((byteVals l).toArray ++ rest) e)).heap[w.heap.size]? = some (.cells ((byteVals l).toArray ++ rest) e (0, 0)) := heap_alloc_new w _
  refine ⟨hb, by omega, hmax, fun j hj => ?_, fun j hj => ?_⟩
  · rw [Nat.zero_add, cell_of_row _ _ j _ e (0, 0) hh, Array.getElem?_append_left (by simpa [byteVals] using hj)]
    simp [byteVals, hj]
  · rw [Nat.zero_add]
    refine ⟨?_, frozen_of_row _ _ j _ e hh⟩
    rw [cell_of_row _ _ j _ e (0, 0) hh, Array.getElem?_eq_getElem (by simp [byteVals]; omega)]
    rfl

/-- from w to w' the slice v has become v': beside its block, and what is new, nothing has turned -/
structure Gr (w w' : World) (v v' : Value) : Prop where
  grown : w.grownBy w' v.ownBlock
  own : ∀ g, v'.ownBlock = some g → v.ownBlock = some g ∨ w.heap.size ≤ g
theorem Gr.refl (w : World) (v : Value) : Gr w w v v := ⟨World.grownBy.refl w _, fun _ h => .inl h⟩
theorem Gr.trans {a b c : World} {v v1 v2 : Value} (h : Gr a b v v1) (k : Gr b c v1 v2) : Gr a c v v2 := by
  refine ⟨⟨k.grown.os.trans h.grown.os, k.grown.tape.trans h.grown.tape, k.grown.output.trans h.grown.output, Nat.le_trans h.grown.size k.grown.size, fun i hi hne => ?_⟩, fun g hg => ?_⟩
  · refine (k.grown.block i (Nat.lt_of_lt_of_le hi h.grown.size) (fun e => ?_)).trans (h.grown.block i hi hne)
    rcases h.own i e.symm with h1 | h1
    · exact hne h1.symm
    · omega
  · rcases k.own g hg with h1 | h1
    · exact h.own g h1
    · exact .inr (Nat.le_trans h.grown.size h1)
theorem Gr.of_below {w w' : World} (h : Below w.heap.size w w') (v : Value) : Gr w w' v v :=
  ⟨⟨h.os, h.tape, h.output, h.size, fun i hi _ => h.block i hi⟩, fun _ h => .inl h⟩
theorem Gr.then_below {w w1 w2 : World} {v v1 : Value} (h : Gr w w1 v v1) (hb : Below w1.heap.size w1 w2) : Gr w w2 v v1 := h.trans (.of_below hb v1)
theorem Gr.alloc {w w1 : World} {v v1 : Value} (h : Gr w w1 v v1) (o : Obj) : Gr w (w1.alloc o) v v1 := h.then_below ((Below.refl _ _).alloc (Nat.le_refl _) o)
theorem Gr.cut {w w1 : World} {v v1 v2 : Value} (h : Gr w w1 v v1) (e : v2.ownBlock = v1.ownBlock) : Gr w w1 v v2 := ⟨h.grown, fun g hg => h.own g (by rw [← e]; exact hg)⟩
theorem Gr.setCell {w w1 : World} {v v1 : Value} (h : Gr w w1 v v1) {g : Nat} (hg : v1.ownBlock = some g) (o : Nat) (u : Value) : Gr w (w1.setCell ⟨g, o, none⟩ u) v v1 := by
  refine ⟨⟨h.grown.os, h.grown.tape, h.grown.output, by simpa [World.setCell] using h.grown.size, fun i hi hne => ?_⟩, h.own⟩
  refine (Below.heap_setCell w1 ⟨g, o, none⟩ u i (fun e => ?_)).trans (h.grown.block i hi hne)
  have e' : i = g := e
  subst e'
  rcases h.own _ hg with h1 | h1
  · exact hne h1.symm
  · omega
theorem Gr.below {w w' : World} {v v' : Value} (h : Gr w w' v v') {base : Nat} (hb : base ≤ w.heap.size) (hv : ∀ g, v.ownBlock = some g → base ≤ g) : Below base w w' :=
  (Below.refl base w).grown h.grown hb hv
theorem Row.own_ge {w : World} {base : Nat} {v : Value} {l : List UInt8} (h : Row w base v l) : ∀ g, v.ownBlock = some g → base ≤ g := by
  obtain ⟨g, off, cap, rfl, hr⟩ := h
  intro g' e
  obtain rfl : g = g' := by simpa [Value.ownBlock] using e
  exact hr.ge
theorem Gr.fresh {w w1 w2 : World} {v v1 : Value} (h : Gr w w1 v v1) (hb : Below w1.heap.size w1 w2) {g o n c : Nat} (hg : w1.heap.size ≤ g) : Gr w w2 v (.slice (some ⟨g, o, none⟩) n c) :=
  ⟨(h.then_below hb).grown, fun g' e => .inr (by
    obtain rfl : g = g' := by simpa [Value.ownBlock] using e
    exact Nat.le_trans h.grown.size hg)⟩
theorem Gr.row_below {w w' : World} {v v' : Value} {base : Nat} {l : List UInt8} (h : Gr w w' v v') (hr : Row w base v l) (hb : base ≤ w.heap.size) : Below base w w' := h.below hb hr.own_ge
theorem Gr.cell {w w' : World} {v v' : Value} (h : Gr w w' v v') {p : Addr} {x : Value} (hc : w.cell? p = some x) (hne : v.ownBlock ≠ some p.block) : w'.cell? p = some x := h.grown.cell hc (fun e => hne e.symm)
theorem Gr.ne {w w' : World} {v v' : Value} (h : Gr w w' v v') {b : Nat} (hb : b < w.heap.size) (hne : v.ownBlock ≠ some b) : v'.ownBlock ≠ some b := fun e => by
  rcases h.own b e with h1 | h1
  · exact hne h1
  · omega
theorem grown_setCells' {g : Nat} : ∀ (vs : List Value) (o : Nat) (w : World), w.grownBy (w.setCells g o vs) (some g)
  | [], _, w => World.grownBy.refl w _
  | v :: r, o, w => by
    have h := grown_setCells' (g := g) r (o + 1) (w.setCell ⟨g, o, none⟩ v)
    have h0 : w.grownBy (w.setCell ⟨g, o, none⟩ v) (some g) := ⟨rfl, rfl, rfl, by simp [World.setCell], fun k _ hne => Below.heap_setCell w _ v k (fun e => hne (by rw [e]))⟩
    exact ⟨h.os.trans h0.os, h.tape.trans h0.tape, h.output.trans h0.output, Nat.le_trans h0.size h.size, fun k hk hne => (h.block k (Nat.lt_of_lt_of_le hk h0.size) hne).trans (h0.block k hk hne)⟩

theorem run_append_row_src {P : Program} (w : World) (t tx ty e : TypeId) (i : TypeInfo) (z : Value) (ht : P.underlying t = some (.slice e)) (hi : P.info? e = some i) (hz : i.zero = some z)
    (hsize : i.size = 1) (hby : i.bytes = 1) (hzs : z.cells.size = 1) {base : Nat} {v : Value} {l : List UInt8} (h : Row w base v l) (hb : base ≤ w.heap.size)
    (x : Value) (n : Nat) (news : List UInt8) (hm : news.length = n) (hs : Src P 1 tx x n (byteVals news) w) (hlen : l.length + news.length ≤ 140737488355328) :
    ∃ v' w', (Builtin.append_ #[t, tx] ty #[v, x]).run P w = .ok v' w' ∧ Row w' base v' (l ++ news) ∧ Gr w w' v v' := by
  subst hm
  obtain ⟨g, off, cap, rfl, hr⟩ := h
  by_cases hroom : l.length + news.length ≤ cap
  · have hrun := run_append_room_src (P := P) w t tx ty e i ht hi g off l.length cap x news.length (byteVals news) (by rw [hsize]; exact hs) hroom
      (fun j hj => by rw [byteVals_len] at hj; rw [hsize, Nat.mul_one, Nat.add_assoc]; exact (hr.there _ (by omega)).1)
      (fun j hj => by rw [byteVals_len] at hj; rw [hsize, Nat.mul_one, Nat.add_assoc]; exact (hr.there _ (by omega)).2)
    rw [hsize, Nat.mul_one] at hrun
    refine ⟨_, _, hrun, ⟨g, off, cap, by rw [List.length_append], hr.ge, by rw [List.length_append]; exact hroom, hr.max, fun j hj => ?_, fun j hj => ?_⟩, ⟨grown_setCells' _ _ _, fun _ h => .inl h⟩⟩
    · by_cases hj1 : j < l.length
      · rw [World.cell?_setCells_out g _ _ _ _ (fun _ _ => Or.inl (by show off + j < off + l.length; omega)), hr.cells j hj1, List.getElem_append_left hj1]
      · have hj2 : j - l.length < news.length := by rw [List.length_append] at hj; omega
        have := World.cell?_setCells_in g (byteVals news) (off + l.length) w (fun k hk => by rw [byteVals_len] at hk; rw [Nat.add_assoc]; exact (hr.there _ (by omega)).1) (j - l.length) (by rw [byteVals_len]; exact hj2)
        rw [show off + l.length + (j - l.length) = off + j by omega] at this
        rw [this, List.getElem_append_right (by omega)]
        simp [byteVals]
    · rw [World.frozen?_setCells]
      refine ⟨?_, (hr.there j hj).2⟩
      by_cases hin : l.length ≤ j ∧ j < l.length + news.length
      · have := World.cell?_setCells_in g (byteVals news) (off + l.length) w (fun k hk => by rw [byteVals_len] at hk; rw [Nat.add_assoc]; exact (hr.there _ (by omega)).1) (j - l.length) (by rw [byteVals_len]; omega)
        rw [show off + l.length + (j - l.length) = off + j by omega] at this
        rw [this]; rfl
      · rw [World.cell?_setCells_out g _ _ _ _ (fun _ _ => by rw [byteVals_len]; show off + j < off + l.length ∨ off + l.length + news.length ≤ off + j; omega)]
        exact (hr.there j hj).1
  · have hold := run_firstCells_some (P := P) w.drew 1 l.length ⟨g, off, none⟩ l.length cap (byteVals l) (by rw [byteVals_len, Nat.mul_one])
      (fun j u hu => by obtain ⟨hj, rfl⟩ := byteVals_get hu; rw [Addr.add_lit]; exact hr.cells j hj)
    have hmx : l.length + news.length ≤ maxLen := by unfold maxLen; omega
    have hrun := run_append_grow_src (P := P) w t tx ty e i z ht hi hz (some ⟨g, off, none⟩) l.length cap (byteVals l) (by rw [hsize]; exact hold) x news.length (byteVals news) (by rw [hsize]; exact hs) (by omega) (by omega) (by rw [hby, Nat.mul_one]; have := growslice_fits (need := l.length + news.length) (old := cap) (bytes := 1) (by omega) (by omega); omega)
    have hge := grownCap_ge w (l.length + news.length) cap e
    have hle := grownCap_le_maxLen w (l.length + news.length) cap e hmx
    generalize grownCap w (l.length + news.length) cap e = c at hrun hge hle
    have hzc : (Builtin.zeroCells z.cells (c - (l.length + news.length))).size = c - (l.length + news.length) := by simp [Builtin.zeroCells, hzs]
    generalize Builtin.zeroCells z.cells (c - (l.length + news.length)) = rest at hrun hzc
    have hvv : byteVals l ++ byteVals news = byteVals (l ++ news) := by simp [byteVals]
    rw [hvv] at hrun
    refine ⟨_, _, hrun, ⟨w.heap.size, 0, c, by rw [List.length_append], ?_⟩, ⟨(Gr.of_below (((Below.refl w.heap.size w).drew).alloc (Nat.le_refl _) _) _).grown, fun g hg => .inr (Nat.le_of_eq (by simpa [Value.ownBlock] using hg))⟩⟩
    exact rowAt_new w.drew (l ++ news) rest e base hb c (by rw [List.length_append]; omega) hle
/-- append of a text -/
theorem run_append_row_str {P : Program} (w : World) (t tx ty e : TypeId) (i : TypeInfo) (z : Value) (ht : P.underlying t = some (.slice e)) (hx : P.underlying tx = some .string) (hi : P.info? e = some i) (hz : i.zero = some z)
    (hsize : i.size = 1) (hby : i.bytes = 1) (hzs : z.cells.size = 1) {base : Nat} {v : Value} {l : List UInt8} (h : Row w base v l) (hb : base ≤ w.heap.size) (news : List UInt8) (hlen : l.length + news.length ≤ 140737488355328) :
    ∃ v' w', (Builtin.append_ #[t, tx] ty #[v, .string ⟨news.toArray⟩]).run P w = .ok v' w' ∧ Row w' base v' (l ++ news) ∧ Gr w w' v v' :=
  run_append_row_src w t tx ty e i z ht hi hz hsize hby hzs h hb _ news.length news rfl (by
    have := Src.ofString (P := P) w hx ⟨news.toArray⟩
    have e : byteCells ⟨news.toArray⟩ = byteVals news := by simp [byteCells, byteVals]
    rw [e] at this
    exact this) hlen
/-- append of bytes that lie in the memory -/
theorem run_append_row_sl {P : Program} (w : World) (t ty e : TypeId) (i : TypeInfo) (z : Value) (ht : P.underlying t = some (.slice e)) (hi : P.info? e = some i) (hz : i.zero = some z)
    (hsize : i.size = 1) (hby : i.bytes = 1) (hzs : z.cells.size = 1) {base : Nat} {v : Value} {l : List UInt8} (h : Row w base v l) (hb : base ≤ w.heap.size)
    (ad : Addr) (m c : Nat) (news : List UInt8) (hm : news.length = m) (hnews : ∀ j (h : j < news.length), w.cell? (ad.add j) = some (.int .u8 (news[j].toNat : Int))) (hlen : l.length + news.length ≤ 140737488355328) :
    ∃ v' w', (Builtin.append_ #[t, t] ty #[v, .slice (some ad) m c]).run P w = .ok v' w' ∧ Row w' base v' (l ++ news) ∧ Gr w w' v v' :=
  run_append_row_src w t t ty e i z ht hi hz hsize hby hzs h hb _ m news hm (Src.ofSlice w ht ad m c (byteVals news) (by rw [byteVals_len, hm, Nat.mul_one]) (fun j u hu => by
    obtain ⟨hj, rfl⟩ := byteVals_get hu
    exact hnews j hj) (byteVals_one news)) hlen
/-- append of no bytes, from nowhere -/
theorem run_append_row_nil {P : Program} (w : World) (t ty e : TypeId) (i : TypeInfo) (z : Value) (ht : P.underlying t = some (.slice e)) (hi : P.info? e = some i) (hz : i.zero = some z)
    (hsize : i.size = 1) (hby : i.bytes = 1) (hzs : z.cells.size = 1) {base : Nat} {v : Value} {l : List UInt8} (h : Row w base v l) (hb : base ≤ w.heap.size) (c : Nat) (hlen : l.length ≤ 140737488355328) :
    ∃ v' w', (Builtin.append_ #[t, t] ty #[v, .slice none 0 c]).run P w = .ok v' w' ∧ Row w' base v' l ∧ Gr w w' v v' := by
  have := run_append_row_src w t t ty e i z ht hi hz hsize hby hzs h hb _ 0 [] rfl (Src.ofNil w ht c) (by simpa using hlen)
  simpa using this
theorem wpList_append_gr {P : Program} (w : World) {ops : Array Oper} {rest : List Oper} {o : Oper} {a : Act} {Q : Exit → Act → World → Prop} (hgd : o.guard = none) (s x : Operand) (t : TypeId)
    (ho : o.op = .call { callee := .builtin .append, args := #[s, x], argTypes := #[t, t] }) (e : TypeId) (i : TypeInfo) (z : Value) (ht : P.underlying t = some (.slice e)) (hi : P.info? e = some i) (hz : i.zero = some z)
    (hsize : i.size = 1) (hby : i.bytes = 1) (hzs : z.cells.size = 1) {base : Nat} {v : Value} {l : List UInt8} (hs : a.eval s = v) (h : Row w base v l) (hb : base ≤ w.heap.size)
    (ad : Addr) (m c : Nat) (news : List UInt8) (hx : a.eval x = .slice (some ad) m c) (hm : news.length = m) (hnews : ∀ j (h : j < news.length), w.cell? (ad.add j) = some (.int .u8 (news[j].toNat : Int)))
    (hlen : l.length + news.length ≤ 140737488355328)
    (hK : ∀ v' w', Row w' base v' (l ++ news) → Gr w w' v v' → wpList P ops Q rest (a.put o.dst v') w') : wpList P ops Q (o :: rest) a w := by
  obtain ⟨v', w', hrun, r1, r2⟩ := run_append_row_sl (P := P) w t o.type e i z ht hi hz hsize hby hzs h hb ad m c news hm hnews hlen
  exact Lib.wpList_append_run w hgd s x t t ho v _ hs hx v' w' hrun (hK v' w' r1 r2)
theorem wpList_append_gr_str {P : Program} (w : World) {ops : Array Oper} {rest : List Oper} {o : Oper} {a : Act} {Q : Exit → Act → World → Prop} (hgd : o.guard = none) (s x : Operand) (t tx : TypeId)
    (ho : o.op = .call { callee := .builtin .append, args := #[s, x], argTypes := #[t, tx] }) (e : TypeId) (i : TypeInfo) (z : Value) (ht : P.underlying t = some (.slice e)) (htx : P.underlying tx = some .string) (hi : P.info? e = some i) (hz : i.zero = some z)
    (hsize : i.size = 1) (hby : i.bytes = 1) (hzs : z.cells.size = 1) {base : Nat} {v : Value} {l : List UInt8} (hs : a.eval s = v) (h : Row w base v l) (hb : base ≤ w.heap.size)
    (news : List UInt8) (hx : a.eval x = .string ⟨news.toArray⟩) (hlen : l.length + news.length ≤ 140737488355328)
    (hK : ∀ v' w', Row w' base v' (l ++ news) → Gr w w' v v' → wpList P ops Q rest (a.put o.dst v') w') : wpList P ops Q (o :: rest) a w := by
  obtain ⟨v', w', hrun, r1, r2⟩ := run_append_row_str (P := P) w t tx o.type e i z ht htx hi hz hsize hby hzs h hb news hlen
  exact Lib.wpList_append_run w hgd s x t tx ho v _ hs hx v' w' hrun (hK v' w' r1 r2)
/-- bytes that have just been laid into a block of their own -/
theorem news_new (w : World) (row : Array Value) (t : TypeId) (fr : Nat × Nat) (news : List UInt8) (h : ∀ j (hj : j < news.length), row[j]? = some (.int .u8 (news[j].toNat : Int))) :
    ∀ j (hj : j < news.length), (w.alloc (.cells row t fr)).cell? (Addr.add ⟨w.heap.size, 0, none⟩ j) = some (.int .u8 (news[j].toNat : Int)) := by
  intro j hj
  rw [Addr.add_lit, Nat.zero_add]
  have hh : (w.alloc (.cells row t fr)).heap[w.heap.size]? = some (.cells row t fr) := heap_alloc_new w _
  unfold World.cell?
  rw [hh]
  exact h j hj
theorem row1 {x : Int} {a : UInt8} (h : x = (a.toNat : Int)) : ∀ j (hj : j < [a].length), (#[Value.int .u8 x])[j]? = some (.int .u8 (([a][j]'hj).toNat : Int)) := by
  intro j hj
  obtain rfl : j = 0 := by simpa using hj
  simp [h]
theorem row2 {x y : Int} {a b : UInt8} (h : x = (a.toNat : Int)) (h2 : y = (b.toNat : Int)) : ∀ j (hj : j < [a, b].length), (#[Value.int .u8 x, .int .u8 y])[j]? = some (.int .u8 (([a, b][j]'hj).toNat : Int)) := by
  intro j hj
  have : j = 0 ∨ j = 1 := by simp at hj; omega
  rcases this with rfl | rfl <;> simp [h, h2]
theorem row4 {x y p q : Int} {a b c d : UInt8} (h : x = (a.toNat : Int)) (h2 : y = (b.toNat : Int)) (h3 : p = (c.toNat : Int)) (h4 : q = (d.toNat : Int)) : ∀ j (hj : j < [a, b, c, d].length), (#[Value.int .u8 x, .int .u8 y, .int .u8 p, .int .u8 q])[j]? = some (.int .u8 (([a, b, c, d][j]'hj).toNat : Int)) := by
  intro j hj
  have : j = 0 ∨ j = 1 ∨ j = 2 ∨ j = 3 := by simp at hj; omega
  rcases this with rfl | rfl | rfl | rfl <;> simp [h, h2, h3, h4]
theorem dig_byte {n : Nat} (h : n < 10) : ((48 + n : Nat) : Int) = ((UInt8.ofNat (48 + n)).toNat : Int) := by
  rw [UInt8.toNat_ofNat']; omega

theorem RowAt.take {w : World} {base g off cap : Nat} {l : List UInt8} (h : RowAt w base l g off cap) (k : Nat) : RowAt w base (l.take k) g off cap := by
  refine ⟨h.ge, by have := h.le; simp; omega, h.max, fun j hj => ?_, h.there⟩
  have hj2 : j < l.length := by simp at hj; omega
  rw [h.cells j hj2, List.getElem_take]
/-- A ROW THAT IS FILLED FROM ITS END: l, then m places that are still open, then suf -/
structure RowP (w : World) (base : Nat) (l : List UInt8) (m : Nat) (suf : List UInt8) (g off cap : Nat) : Prop where
  ge : base ≤ g
  le : l.length + m + suf.length ≤ cap
  max : cap ≤ maxLen
  pre : ∀ j (h : j < l.length), w.cell? ⟨g, off + j, none⟩ = some (.int .u8 (l[j].toNat : Int))
  post : ∀ j (h : j < suf.length), w.cell? ⟨g, off + (l.length + m + j), none⟩ = some (.int .u8 (suf[j].toNat : Int))
  there : ∀ j, j < cap → (w.cell? ⟨g, off + j, none⟩).isSome = true ∧ w.frozen? ⟨g, off + j, none⟩ = false
theorem RowAt.openP {w : World} {base g off cap : Nat} {l : List UInt8} (h : RowAt w base l g off cap) {n : Nat} (hn : l.length + n ≤ cap) : RowP w base l n [] g off cap :=
  ⟨h.ge, by simpa using hn, h.max, h.cells, fun j hj => absurd hj (by simp), h.there⟩
theorem RowP.close {w : World} {base g off cap : Nat} {l suf : List UInt8} (h : RowP w base l 0 suf g off cap) : RowAt w base (l ++ suf) g off cap := by
  refine ⟨h.ge, by have := h.le; simp; omega, h.max, fun j hj => ?_, h.there⟩
  by_cases hj1 : j < l.length
  · rw [h.pre j hj1, List.getElem_append_left hj1]
  · have hj2 : j - l.length < suf.length := by rw [List.length_append] at hj; omega
    have := h.post (j - l.length) hj2
    rw [show l.length + 0 + (j - l.length) = j by omega] at this
    rw [this, List.getElem_append_right (by omega)]
theorem RowP.store {w : World} {base g off cap m : Nat} {l suf : List UInt8} (h : RowP w base l (m + 1) suf g off cap) (c : UInt8) {x : Int} (hx : x = (c.toNat : Int)) (o : Nat) (ho : o = off + (l.length + m)) :
    RowP (w.setCell ⟨g, o, none⟩ (.int .u8 x)) base l m (c :: suf) g off cap := by
  subst hx ho
  have hle := h.le
  have hne : ∀ j, j ≠ l.length + m → (w.setCell ⟨g, off + (l.length + m), none⟩ (.int .u8 (c.toNat : Int))).cell? ⟨g, off + j, none⟩ = w.cell? ⟨g, off + j, none⟩ := fun j hj =>
    World.cell?_setCell_other w _ _ _ (fun e => hj (by have := congrArg Addr.off e; simp at this; omega))
  have hsome := (h.there (l.length + m) (by omega)).1
  obtain ⟨u, hu⟩ := Option.isSome_iff_exists.1 hsome
  have hat : (w.setCell ⟨g, off + (l.length + m), none⟩ (.int .u8 (c.toNat : Int))).cell? ⟨g, off + (l.length + m), none⟩ = some (.int .u8 (c.toNat : Int)) := World.cell?_setCell_same w _ _ hu
  refine ⟨h.ge, by simp; omega, h.max, fun j hj => ?_, fun j hj => ?_, fun j hj => ?_⟩
  · rw [hne j (by omega)]; exact h.pre j hj
  · rcases j with _ | j
    · exact hat
    · rw [show l.length + m + (j + 1) = l.length + (m + 1) + j by omega, hne _ (by omega)]
      exact h.post j (by simpa using hj)
  · rw [World.frozen?_setCell]
    refine ⟨?_, (h.there j hj).2⟩
    by_cases e : j = l.length + m
    · subst e; rw [hat]; rfl
    · rw [hne j e]; exact (h.there j hj).1
/-- append of zeros where there is no room -/
theorem run_append_zeros_row {P : Program} (w : World) (t tn ty e : TypeId) (i : TypeInfo) (z : Value) (kq kn : IntKind) (ht : P.underlying t = some (.slice e)) (htn : P.underlying tn = some (.int kn)) (hi : P.info? e = some i) (hz : i.zero = some z)
    (hsize : i.size = 1) (hby : i.bytes = 1) (hzs : z.cells.size = 1) {base g off cap : Nat} {l : List UInt8} (hr : RowAt w base l g off cap) (hb : base ≤ w.heap.size)
    (k : Nat) (h0 : 0 < k) (hg : cap < l.length + k) (hlen : l.length + k ≤ 140737488355328) :
    ∃ cap' w', (Builtin.append_ #[t, tn] ty #[.slice (some ⟨g, off, none⟩) l.length cap, .int kq k]).run P w = .ok (.slice (some ⟨w.heap.size, 0, none⟩) (l.length + k) cap') w' ∧ RowP w' base l k [] w.heap.size 0 cap' ∧ Below w.heap.size w w' := by
  have hold := run_firstCells_some (P := P) w.drew 1 l.length ⟨g, off, none⟩ l.length cap (byteVals l) (by rw [byteVals_len, Nat.mul_one])
    (fun j u hu => by obtain ⟨hj, rfl⟩ := byteVals_get hu; rw [Addr.add_lit]; exact hr.cells j hj)
  have hmx : l.length + k ≤ maxLen := by unfold maxLen; omega
  have hfit := growslice_fits (need := l.length + k) (old := cap) (bytes := 1) (by omega) (by omega)
  have hrun := Lib.run_append_grow_zeros (P := P) w t tn ty e i z kq kn ht htn hi hz (some ⟨g, off, none⟩) l.length cap (byteVals l) (by rw [hsize]; exact hold) k h0 (by omega) hg (by omega) (by rw [hby]; omega) (by rw [hby]; exact hfit)
  have hge := grownCap_ge w (l.length + k) cap e
  have hle := grownCap_le_maxLen w (l.length + k) cap e hmx
  generalize grownCap w (l.length + k) cap e = c at hrun hge hle
  have hz1 : (Builtin.zeroCells z.cells k).size = k := by simp [Builtin.zeroCells, hzs]
  have hz2 : (Builtin.zeroCells z.cells (c - (l.length + k))).size = c - (l.length + k) := by simp [Builtin.zeroCells, hzs]
  rw [Array.append_assoc] at hrun
  have hz3 : (Builtin.zeroCells z.cells k ++ Builtin.zeroCells z.cells (c - (l.length + k))).size = c - l.length := by rw [Array.size_append]; omega
  generalize Builtin.zeroCells z.cells k ++ Builtin.zeroCells z.cells (c - (l.length + k)) = rest at hrun hz3
  have hrow := rowAt_new w.drew l rest e base hb c (by omega) hle
  exact ⟨c, _, hrun, hrow.openP (by omega), ((Below.refl w.heap.size w).drew).alloc (Nat.le_refl _) _⟩
end Go.Proofs.YtgcjhakhepgjlaaDoor

/-
  WALKS, times, part g: numbers are written: appendInt.
-/
namespace Go.Proofs.YtgcjhakhepgjlaaDoor
open Go.RowKit
set_option linter.unusedVariables false
attribute [local go_sem] ByteArray.extract_mk get_mk ByteArray.toList_mk ByteArray.mk_append_mk take_drop_len

theorem info_u8 : (Tryd.prog.info? 5).map (fun i => (i.zero, i.size, i.bytes)) = some (some (.int .u8 0), 1, 1) := by kernel_rfl

theorem utod_any (n : Nat) (h : n < 10) (c : UInt8) (hc : c = UInt8.ofNat (48 + n)) (w : World) :
    Calls Tryd.prog 78 #[.int .u64 n] w fun e w' => e = .returned (.int .u8 ((c.toNat : Nat) : Int)) ∧ Qt w w' := by
  subst hc
  have hd := hide (dig_byte h)
  go_enter Tryd.func78, Tryd.ntmps78
  go_wp2
  go_ret
  exact ⟨ret_u (by rw [← hd.out]; omega), Qt.refl _⟩

set_option maxRecDepth 100000 in
set_option maxHeartbeats 4000000 in
theorem appendInt_two (x : Nat) (hx : x < 100) {base : Nat} {v : Value} {l : List UInt8} (w : World) (hr : Row w base v l) (hb : base ≤ w.heap.size) (hl : l.length ≤ 70368744177664) :
    Calls Tryd.prog 60 #[v, .int .i64 x, .int .i64 2] w fun e w' => ∃ v', e = .returned v' ∧ Row w' base v' (l ++ Fs.dg 2 x) ∧ Gr w w' v v' := by
  obtain ⟨i0, hi, hz0, hz1, hz2⟩ := info_parts info_u8
  rw [Fs.dg_two hx]
  have hx1 : x / 10 < 10 := by omega
  have hx2 : x % 10 < 10 := by omega
  obtain ⟨c1, hc1⟩ : ∃ c, c = UInt8.ofNat (48 + x / 10) := ⟨_, rfl⟩
  obtain ⟨c2, hc2⟩ : ∃ c, c = UInt8.ofNat (48 + x % 10) := ⟨_, rfl⟩
  rw [← hc1, ← hc2]
  have HC1 := hide hc1
  have HC2 := hide hc2
  clear hc1 hc2
  go_enter Tryd.func60, Tryd.ntmps60
  go_wp2_with fail
  refine (utod_any (x / 10) hx1 c1 HC1.out _).mono ?_
  rintro e w1 ⟨rfl, hq1⟩
  go_wp2_with fail
  refine (utod_any (x % 10) hx2 c2 HC2.out _).mono ?_
  rintro e w2 ⟨rfl, hq2⟩
  have hq := hq1.trans hq2
  have hr2 := hr.below (hq.below _)
  have hs2 := hq.size
  have hb2 : base ≤ w2.heap.size := by omega
  have B2 := ((Gr.refl w v).then_below (hq.below _)).alloc (Obj.cells #[.int .u8 (c1.toNat : Int), .int .u8 (c2.toNat : Int)] 5)
  clear hq1 hq2 hr hs2
  have HQ := hide hq
  clear hq
  go_wp2_with (at_builtin; refine wpList_append_gr _ rfl (.tmp 31) (.tmp 40) 47 rfl 5 i0 (.int .u8 0) Tryd.underlying47 hi hz0 hz1 hz2 rfl rfl (hr2.alloc _) (by simp; omega) ⟨w2.heap.size, 0, none⟩ 2 2 [c1, c2] rfl rfl (news_new w2 _ _ _ _ (row2 rfl rfl)) (by simp; omega) ?_; intro v3 w3 hr3 hb3)
  go_ret
  exact ⟨_, rfl, hr3, B2.trans hb3⟩

set_option maxRecDepth 100000 in
set_option maxHeartbeats 4000000 in
theorem appendInt_four (x : Nat) (hx : x < 10000) {base : Nat} {v : Value} {l : List UInt8} (w : World) (hr : Row w base v l) (hb : base ≤ w.heap.size) (hl : l.length ≤ 70368744177664) :
    Calls Tryd.prog 60 #[v, .int .i64 x, .int .i64 4] w fun e w' => ∃ v', e = .returned v' ∧ Row w' base v' (l ++ Fs.dg 4 x) ∧ Gr w w' v v' := by
  obtain ⟨i0, hi, hz0, hz1, hz2⟩ := info_parts info_u8
  rw [Fs.dg_four hx]
  have hx1 : x / 1000 < 10 := by omega
  have hx2 : x / 100 % 10 < 10 := by omega
  have hx3 : x / 10 % 10 < 10 := by omega
  have hx4 : x % 10 < 10 := by omega
  obtain ⟨c1, hc1⟩ : ∃ c, c = UInt8.ofNat (48 + x / 1000) := ⟨_, rfl⟩
  obtain ⟨c2, hc2⟩ : ∃ c, c = UInt8.ofNat (48 + x / 100 % 10) := ⟨_, rfl⟩
  obtain ⟨c3, hc3⟩ : ∃ c, c = UInt8.ofNat (48 + x / 10 % 10) := ⟨_, rfl⟩
  obtain ⟨c4, hc4⟩ : ∃ c, c = UInt8.ofNat (48 + x % 10) := ⟨_, rfl⟩
  rw [← hc1, ← hc2, ← hc3, ← hc4]
  have HC1 := hide hc1
  have HC2 := hide hc2
  have HC3 := hide hc3
  have HC4 := hide hc4
  clear hc1 hc2 hc3 hc4
  go_enter Tryd.func60, Tryd.ntmps60
  go_wp2_with fail
  refine (utod_any (x / 1000) hx1 c1 HC1.out _).mono ?_
  rintro e w1 ⟨rfl, hq1⟩
  go_wp2_with fail
  refine (utod_any (x / 100 % 10) hx2 c2 HC2.out _).mono ?_
  rintro e w2 ⟨rfl, hq2⟩
  go_wp2_with fail
  refine (utod_any (x / 10 % 10) hx3 c3 HC3.out _).mono ?_
  rintro e w3 ⟨rfl, hq3⟩
  go_wp2_with fail
  refine (utod_any (x % 10) hx4 c4 HC4.out _).mono ?_
  rintro e w4 ⟨rfl, hq4⟩
  have hq := ((hq1.trans hq2).trans hq3).trans hq4
  have hr2 := hr.below (hq.below _)
  have hs2 := hq.size
  have hb2 : base ≤ w4.heap.size := by omega
  have B2 := ((Gr.refl w v).then_below (hq.below _)).alloc (Obj.cells #[.int .u8 (c1.toNat : Int), .int .u8 (c2.toNat : Int), .int .u8 (c3.toNat : Int), .int .u8 (c4.toNat : Int)] 5)
  clear hq1 hq2 hq3 hq4 hr hs2
  have HQ := hide hq
  clear hq
  go_wp2_with (at_builtin; refine wpList_append_gr _ rfl (.tmp 49) (.tmp 68) 47 rfl 5 i0 (.int .u8 0) Tryd.underlying47 hi hz0 hz1 hz2 rfl rfl (hr2.alloc _) (by simp; omega) ⟨w4.heap.size, 0, none⟩ 4 4 [c1, c2, c3, c4] rfl rfl (news_new w4 _ _ _ _ (row4 rfl rfl rfl rfl)) (by simp; omega) ?_; intro v3 w3 hr3 hb3)
  go_ret
  exact ⟨_, rfl, hr3, B2.trans hb3⟩
end Go.Proofs.YtgcjhakhepgjlaaDoor
