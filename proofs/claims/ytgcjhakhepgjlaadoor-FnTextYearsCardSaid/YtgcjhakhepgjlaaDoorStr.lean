/-
  Small lemmas for the walks over texts: a text in the walk is '.string ⟨l.toArray⟩', l a list of bytes.
-/
import Derived.Test.YtgcjhakhepgjlaaDoorProg
import Derived.WalkKit
import Derived.WalkSpells
import Derived.WalkLawsBesides
import Derived.Deep.QuietTactic
import Derived.BigQuiet
namespace Go.Proofs.YtgcjhakhepgjlaaDoor
open Go.RowKit

theorem hide {p : Prop} (h : p) : Hid p := h
theorem get_mk (l : List UInt8) (i : Nat) (h : i < (ByteArray.mk l.toArray).size) : (ByteArray.mk l.toArray)[i]'h = l[i]'h := rfl
theorem take_drop_len (l : List UInt8) (a : Nat) : List.take (l.length - a) (List.drop a l) = List.drop a l := List.take_of_length_le (by simp)
theorem ret_int {k : IntKind} {a b : Int} (h : a = b) : Ending.returned (.int k a) = .returned (.int k b) := by rw [h]
theorem ret_bool {a b : Bool} (h : a = b) : Ending.returned (.bool a) = .returned (.bool b) := by rw [h]
theorem ret_str {a b : List UInt8} (h : a = b) : Ending.returned (.string ⟨a.toArray⟩) = .returned (.string ⟨b.toArray⟩) := by rw [h]
theorem byte_lt (c : UInt8) : (c.toNat : Int) < 256 := by have := c.toNat_lt; omega
theorem byte_eq (c : UInt8) (n : Nat) (h : n < 256) : (((c.toNat : Int) == (n : Int)) = true) ↔ c = UInt8.ofNat n := by
  rw [beq_iff_eq]
  constructor
  · intro h2
    apply UInt8.toNat_inj.1
    simp [UInt8.toNat_ofNat']
    omega
  · rintro rfl
    simp [UInt8.toNat_ofNat']
    omega

/-- THE CALL HAS DRAWN, AND TURNED NOTHING. -/
def Qt (w w' : World) : Prop := ∃ n, w' = w.drewN n
theorem Qt.refl (w : World) : Qt w w := ⟨0, rfl⟩
theorem Qt.drewN {a w : World} (h : Qt a w) (n : Nat) : Qt a (w.drewN n) := by
  obtain ⟨m, rfl⟩ := h
  exact ⟨m + n, World.drewN_drewN ..⟩
theorem Qt.drew {a w : World} (h : Qt a w) : Qt a w.drew := h.drewN 1
theorem Qt.trans {a b c : World} (h : Qt a b) (k : Qt b c) : Qt a c := by
  obtain ⟨m, rfl⟩ := h
  obtain ⟨n, rfl⟩ := k
  exact ⟨m + n, World.drewN_drewN ..⟩
theorem Qt.cell {a w : World} (h : Qt a w) {p : Addr} {v : Value} (hc : a.cell? p = some v) : w.cell? p = some v := by
  obtain ⟨m, rfl⟩ := h
  exact hc
theorem Qt.size {a w : World} (h : Qt a w) : w.heap.size = a.heap.size := by
  obtain ⟨m, rfl⟩ := h
  rfl
theorem Qt.below {a w : World} (h : Qt a w) (B : Nat) : Below B a w := by
  obtain ⟨m, rfl⟩ := h
  exact ⟨rfl, rfl, rfl, Nat.le_refl _, fun _ _ => rfl⟩
/-- a quiet callee's contract, met inside a region that draws -/
theorem quiet_qt {P : Program} {f : FuncId} {args : Array Value} {w : World} {n : Nat} {v : Value}
    (h : Calls P f args (w.drewN n) fun e w' => e = .returned v ∧ Qt (w.drewN n) w') : Calls P f args (w.drewN n) fun e w'' => e = .returned v ∧ ∃ m, w'' = w.drewN m :=
  h.mono fun _ _ ⟨he, m, hm⟩ => ⟨he, n + m, by rw [hm, World.drewN_drewN]⟩
theorem quiet_qt_add {P : Program} {f : FuncId} {args : Array Value} {w : World} {a n : Nat} {v : Value}
    (h : Calls P f args (w.drewN (a + n)) fun e w' => e = .returned v ∧ Qt (w.drewN (a + n)) w') : Calls P f args (w.drewN (a + n)) fun e w'' => e = .returned v ∧ ∃ m, w'' = w.drewN (a + m) :=
  h.mono fun _ _ ⟨he, m, hm⟩ => ⟨he, n + m, by rw [hm, World.drewN_drewN, Nat.add_assoc]⟩

theorem cell_lt {w : World} {p : Addr} {v : Value} (h : w.cell? p = some v) : p.block < w.heap.size := by
  rcases Nat.lt_or_ge p.block w.heap.size with hlt | hge
  · exact hlt
  · exfalso
    unfold World.cell? at h
    rw [Array.getElem?_eq_none hge] at h
    simp at h
theorem Below.cellk {w w' : World} {p : Addr} {v : Value} (hb : Below w.heap.size w w') (h : w.cell? p = some v) : w'.cell? p = some v :=
  (hb.cell (cell_lt h)).trans h

/-- 'string([]byte{c})' -/
theorem conv_one (w : World) (fr : Nat × Nat) (c : UInt8) (cap : Nat) :
    (convert 47 9 (.slice (some ⟨w.heap.size, 0, none⟩) 1 cap)).run Tryd.prog (w.alloc (.cells #[.int .u8 (c.toNat : Int)] 5 fr)) = .ok (.string ⟨[c].toArray⟩) (w.alloc (.cells #[.int .u8 (c.toNat : Int)] 5 fr)) := by
  refine run_convert_bytes_back (P := Tryd.prog) _ 47 9 5 ⟨w.heap.size, 0, none⟩ cap [c] Tryd.underlying47 Tryd.underlying5 Tryd.underlying9 ?_
  intro j hj
  obtain rfl : j = 0 := by simp at hj; omega
  have := World.cell?_alloc_mark w #[.int .u8 (c.toNat : Int)] 5 fr 0
  simpa [Addr.add] using this

/-! THE PACKAGE's VARIABLES, as the rows lay them: each error an interface value with a pointer in it. -/
def HAtoi (w : World) : Prop := ∃ a : Addr, w.cell? ⟨1, 0, none⟩ = some (.iface 100 (.pointer (some a)))
theorem HAtoi.below {w w' : World} (h : HAtoi w) (hb : Below w.heap.size w w') : HAtoi w' := h.imp fun _ hc => Below.cellk hb hc
theorem HAtoi.qt {w w' : World} (h : HAtoi w) (hq : Qt w w') : HAtoi w' := h.below (hq.below _)
def HBad (w : World) : Prop := ∃ a : Addr, w.cell? ⟨0, 0, none⟩ = some (.iface 100 (.pointer (some a)))
theorem HBad.below {w w' : World} (h : HBad w) (hb : Below w.heap.size w w') : HBad w' := h.imp fun _ hc => Below.cellk hb hc
theorem HBad.qt {w w' : World} (h : HBad w) (hq : Qt w w') : HBad w' := h.below (hq.below _)
def HLead (w : World) : Prop := ∃ a : Addr, w.cell? ⟨2, 0, none⟩ = some (.iface 100 (.pointer (some a)))
theorem HLead.below {w w' : World} (h : HLead w) (hb : Below w.heap.size w w') : HLead w' := h.imp fun _ hc => Below.cellk hb hc
theorem HLead.qt {w w' : World} (h : HLead w) (hq : Qt w w') : HLead w' := h.below (hq.below _)
def HStd (w : World) : Prop := w.cell? ⟨3, 0, none⟩ = some (.int .i64 260) ∧ w.cell? ⟨3, 1, none⟩ = some (.int .i64 265) ∧ w.cell? ⟨3, 2, none⟩ = some (.int .i64 1038) ∧ w.cell? ⟨3, 3, none⟩ = some (.int .i64 1040) ∧ w.cell? ⟨3, 4, none⟩ = some (.int .i64 1042) ∧ w.cell? ⟨3, 5, none⟩ = some (.int .i64 276)
theorem HStd.below {w w' : World} (h : HStd w) (hb : Below w.heap.size w w') : HStd w' := ⟨Below.cellk hb h.1, Below.cellk hb h.2.1, Below.cellk hb h.2.2.1, Below.cellk hb h.2.2.2.1, Below.cellk hb h.2.2.2.2.1, Below.cellk hb h.2.2.2.2.2⟩
theorem HStd.qt {w w' : World} (h : HStd w) (hq : Qt w w') : HStd w' := h.below (hq.below _)
structure ErrsA (w : World) : Prop where
  atoi : HAtoi w
  lead : HLead w
theorem ErrsA.below {w w' : World} (h : ErrsA w) (hb : Below w.heap.size w w') : ErrsA w' := ⟨h.atoi.below hb, h.lead.below hb⟩
theorem ErrsA.qt {w w' : World} (h : ErrsA w) (hq : Qt w w') : ErrsA w' := h.below (hq.below _)
structure ErrsN (w : World) : Prop where
  bad : HBad w
  atoi : HAtoi w
  lead : HLead w
theorem ErrsN.below {w w' : World} (h : ErrsN w) (hb : Below w.heap.size w w') : ErrsN w' := ⟨h.bad.below hb, h.atoi.below hb, h.lead.below hb⟩
theorem ErrsN.qt {w w' : World} (h : ErrsN w) (hq : Qt w w') : ErrsN w' := h.below (hq.below _)

end Go.Proofs.YtgcjhakhepgjlaaDoor
