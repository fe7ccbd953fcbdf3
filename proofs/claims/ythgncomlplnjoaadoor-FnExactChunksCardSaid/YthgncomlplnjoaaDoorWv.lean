/-
  WALKS, part v: NextChunk.
-/
import Derived.Test.YthgncomlplnjoaaDoorWo5
import Derived.Test.YthgncomlplnjoaaDoorWu
import Derived.Test.YthgncomlplnjoaaDoorFe
namespace Go.Proofs.YthgncomlplnjoaaDoor
open Go.RowKit
set_option linter.unusedVariables false
attribute [local go_sem] ByteArray.extract_mk get_mk ByteArray.toList_mk ByteArray.mk_append_mk take_drop_len

def chunkV (x : List UInt8 × List UInt8 × List UInt8) : Value := .tuple #[.string ⟨x.1.toArray⟩, .string ⟨x.2.1.toArray⟩, .string ⟨x.2.2.toArray⟩]

set_option maxHeartbeats 1000000 in
theorem NextChunk_any (l : List UInt8) (hl : l.length ≤ 140737488351000) (w : World) (E : HStd w) : Calls Tryd.prog 26 #[.string ⟨l.toArray⟩] w fun e w' => e = .returned (chunkV (Fs.chunk l)) ∧ Qt w w' := by
  have hbo := Fs.next_bounds l
  have HX : Hid (Fs.chunk l = if (Fs.next l).2.1 = 0 then ((Fs.next l).1, [], []) else ((Fs.next l).1, (l.take (l.length - (Fs.next l).2.2.length)).drop (Fs.next l).1.length, (Fs.next l).2.2)) := rfl
  obtain ⟨a, s, b, hx⟩ : ∃ a s b, Fs.next l = (a, s, b) := ⟨_, _, _, rfl⟩
  rw [hx] at hbo HX
  simp only at hbo
  by_cases h0 : s = 0
  · have HY : Hid (Fs.chunk l = (a, [], [])) := by
      have := HX.out
      rw [if_pos h0] at this
      exact this
    have e0 : (s == 0) = true := by rw [beq_iff_eq]; exact h0
    clear h0 HX
    go_enter Tryd.func26, Tryd.ntmps26
    go_wp2_with fail
    refine (next_any l hl _ E).mono ?_
    rw [hx]
    rintro e w2 ⟨rfl, hq⟩
    simp only [nextV]
    clear hx
    go_wp2_with fail
    go_ret3
    exact ⟨by rw [HY.out]; rfl, hq⟩
  · have HY : Hid (Fs.chunk l = (a, (l.drop a.length).take (l.length - b.length - a.length), b)) := by
      have := HX.out
      rw [if_neg h0, List.drop_take] at this
      exact this
    have e0 : (s == 0) = false := by rw [beq_eq_false_iff_ne]; exact h0
    clear h0 HX
    go_enter Tryd.func26, Tryd.ntmps26
    go_wp2_with fail
    refine (next_any l hl _ E).mono ?_
    rw [hx]
    rintro e w2 ⟨rfl, hq⟩
    simp only [nextV]
    clear hx
    go_wp2_with fail
    go_quiet (fail)
    go_wp2_with fail
    go_ret3
    exact ⟨by rw [HY.out]; rfl, hq.drewN _⟩

theorem iNextChunk_any (l : List UInt8) (hl : l.length ≤ 140737488351000) (w : World) (E : HStd w) : Calls Tryd.prog 15 #[.string ⟨l.toArray⟩] w fun e w' => e = .returned (chunkV (Fs.chunk l)) ∧ Qt w w' := by
  go_enter Tryd.func15, Tryd.ntmps15
  go_wp2_with fail
  refine (NextChunk_any l hl _ E).mono ?_
  rintro e w2 ⟨rfl, hq⟩
  simp only [chunkV]
  go_wp2_with fail
  go_ret3
  exact ⟨rfl, hq⟩
end Go.Proofs.YthgncomlplnjoaaDoor
