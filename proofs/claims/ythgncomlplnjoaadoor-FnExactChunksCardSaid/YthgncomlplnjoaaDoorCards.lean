/-
  DERIVED. GIVEN WITH THE SEED: THE CARDS: each row of YthgncomlplnjoaaDoorRows.lean that lists a variable, with what it lists TIED to the program's text (the seventh form; the later family's looks); each row that meets fmt, with fmt's text TOLD by the authors' own Lean function (tested against real Go, not proved from fmt's source: count such statements apart). THE CARD IS WHAT COUNTS. Prove the row's statement (the work); the ties are given (YthgncomlplnjoaaDoorTie.lean); close each card by the builder's one call (the guide's Derived/Test/ToyasCard.lean, 'card_holds'). Laid BY PROGRAM, IN A SANDBOX (cutbox-door.mjs). By AI agents, Wed Nov 11 2026. No macro, syntax, notation, axiom, sorry.
-/
import Derived.Test.YthgncomlplnjoaaDoorRows
import GoSem.ClaimSeven
namespace Go.Proofs.YthgncomlplnjoaaDoor
namespace Rows

/-- THE TIED CARD OF 'laws.FnExactAtoi'. -/
def fnExactAtoiCard : Claim7 := { stood := { row := fnExactAtoiRow, standIns := [], harness := (true, "2b95f51752dabfc3773b9040f234a8141915d6c540d1b86b3b8b5b92cd37ecbe"), looks := false }, kinds := [], alts := [], laidByText := true, laidKinds := [.sentinel, .sentinel], laidTests := true, laidLooks := .later }
def FnExactAtoiCardSaid : Prop := Claim7.holds Tryd.pinned (.plain (OpenSpec.ofChange fnExactAtoiSpec)) fnExactAtoiCard

/-- THE TIED CARD OF 'laws.FnExactGMT'. -/
def fnExactGMTCard : Claim7 := { stood := { row := fnExactGMTRow, standIns := [], harness := (true, "2b95f51752dabfc3773b9040f234a8141915d6c540d1b86b3b8b5b92cd37ecbe"), looks := false }, kinds := [], alts := [], laidByText := true, laidKinds := [.sentinel], laidTests := true, laidLooks := .later }
def FnExactGMTCardSaid : Prop := Claim7.holds Tryd.pinned (.plain (OpenSpec.ofChange fnExactGMTSpec)) fnExactGMTCard

/-- THE TIED CARD OF 'laws.FnNanosecondsMark'. -/
def fnNanosecondsMarkCard : Claim7 := { stood := { row := fnNanosecondsMarkRow, standIns := [], harness := (true, "2b95f51752dabfc3773b9040f234a8141915d6c540d1b86b3b8b5b92cd37ecbe"), looks := false }, kinds := [], alts := [], laidByText := true, laidKinds := [.sentinel, .sentinel, .sentinel], laidTests := true, laidLooks := .later }
def FnNanosecondsMarkCardSaid : Prop := Claim7.holds Tryd.pinned (.plain (OpenSpec.ofChange fnNanosecondsMarkSpec)) fnNanosecondsMarkCard

/-- THE TIED CARD OF 'laws.FnTimeZoneFew'. -/
def fnTimeZoneFewCard : Claim7 := { stood := { row := fnTimeZoneFewRow, standIns := [], harness := (true, "2b95f51752dabfc3773b9040f234a8141915d6c540d1b86b3b8b5b92cd37ecbe"), looks := false }, kinds := [], alts := [], laidByText := true, laidKinds := [.sentinel], laidTests := true, laidLooks := .later }
def FnTimeZoneFewCardSaid : Prop := Claim7.holds Tryd.pinned (.plain (OpenSpec.ofChange fnTimeZoneFewSpec)) fnTimeZoneFewCard

/-- THE TIED CARD OF 'laws.FnChunkElement'. -/
def fnChunkElementCard : Claim7 := { stood := { row := fnChunkElementRow, standIns := [], harness := (true, "2b95f51752dabfc3773b9040f234a8141915d6c540d1b86b3b8b5b92cd37ecbe"), looks := false }, kinds := [], alts := [], laidByText := true, laidKinds := [.data], laidTests := true, laidLooks := .later }
def FnChunkElementCardSaid : Prop := Claim7.holds Tryd.pinned (.plain (OpenSpec.ofChange fnChunkElementSpec)) fnChunkElementCard

/-- THE TIED CARD OF 'laws.FnExactChunks'. -/
def fnExactChunksCard : Claim7 := { stood := { row := fnExactChunksRow, standIns := [], harness := (true, "2b95f51752dabfc3773b9040f234a8141915d6c540d1b86b3b8b5b92cd37ecbe"), looks := false }, kinds := [], alts := [], laidByText := true, laidKinds := [.data], laidTests := true, laidLooks := .later }
def FnExactChunksCardSaid : Prop := Claim7.holds Tryd.pinned (.plain (OpenSpec.ofChange fnExactChunksSpec)) fnExactChunksCard

/-- THE SECOND FORM's CARD OF 'laws.FnExactAtoi'. -/
def fnExactAtoiUptoCard : Claim7 := { stood := { row := fnExactAtoiUptoRow, standIns := [], harness := (true, "2b95f51752dabfc3773b9040f234a8141915d6c540d1b86b3b8b5b92cd37ecbe"), looks := false }, kinds := [], alts := [], laidByText := true, laidKinds := [.sentinel, .sentinel], laidTests := true, laidLooks := .later }
def FnExactAtoiUptoCardSaid : Prop := Claim7.holds Tryd.pinned (.plain (OpenSpec.upto fnExactAtoiSpec)) fnExactAtoiUptoCard

/-- THE SECOND FORM's CARD OF 'laws.FnExactGMT'. -/
def fnExactGMTUptoCard : Claim7 := { stood := { row := fnExactGMTUptoRow, standIns := [], harness := (true, "2b95f51752dabfc3773b9040f234a8141915d6c540d1b86b3b8b5b92cd37ecbe"), looks := false }, kinds := [], alts := [], laidByText := true, laidKinds := [.sentinel], laidTests := true, laidLooks := .later }
def FnExactGMTUptoCardSaid : Prop := Claim7.holds Tryd.pinned (.plain (OpenSpec.upto fnExactGMTSpec)) fnExactGMTUptoCard

/-- THE SECOND FORM's CARD OF 'laws.FnNanosecondsMark'. -/
def fnNanosecondsMarkUptoCard : Claim7 := { stood := { row := fnNanosecondsMarkUptoRow, standIns := [], harness := (true, "2b95f51752dabfc3773b9040f234a8141915d6c540d1b86b3b8b5b92cd37ecbe"), looks := false }, kinds := [], alts := [], laidByText := true, laidKinds := [.sentinel, .sentinel, .sentinel], laidTests := true, laidLooks := .later }
def FnNanosecondsMarkUptoCardSaid : Prop := Claim7.holds Tryd.pinned (.plain (OpenSpec.upto fnNanosecondsMarkSpec)) fnNanosecondsMarkUptoCard

/-- THE SECOND FORM's CARD OF 'laws.FnTimeZoneFew'. -/
def fnTimeZoneFewUptoCard : Claim7 := { stood := { row := fnTimeZoneFewUptoRow, standIns := [], harness := (true, "2b95f51752dabfc3773b9040f234a8141915d6c540d1b86b3b8b5b92cd37ecbe"), looks := false }, kinds := [], alts := [], laidByText := true, laidKinds := [.sentinel], laidTests := true, laidLooks := .later }
def FnTimeZoneFewUptoCardSaid : Prop := Claim7.holds Tryd.pinned (.plain (OpenSpec.upto fnTimeZoneFewSpec)) fnTimeZoneFewUptoCard

/-- THE SECOND FORM's CARD OF 'laws.FnChunkElement'. -/
def fnChunkElementUptoCard : Claim7 := { stood := { row := fnChunkElementUptoRow, standIns := [], harness := (true, "2b95f51752dabfc3773b9040f234a8141915d6c540d1b86b3b8b5b92cd37ecbe"), looks := false }, kinds := [], alts := [], laidByText := true, laidKinds := [.data], laidTests := true, laidLooks := .later }
def FnChunkElementUptoCardSaid : Prop := Claim7.holds Tryd.pinned (.plain (OpenSpec.upto fnChunkElementSpec)) fnChunkElementUptoCard

/-- THE SECOND FORM's CARD OF 'laws.FnExactChunks'. -/
def fnExactChunksUptoCard : Claim7 := { stood := { row := fnExactChunksUptoRow, standIns := [], harness := (true, "2b95f51752dabfc3773b9040f234a8141915d6c540d1b86b3b8b5b92cd37ecbe"), looks := false }, kinds := [], alts := [], laidByText := true, laidKinds := [.data], laidTests := true, laidLooks := .later }
def FnExactChunksUptoCardSaid : Prop := Claim7.holds Tryd.pinned (.plain (OpenSpec.upto fnExactChunksSpec)) fnExactChunksUptoCard
end Rows
end Go.Proofs.YthgncomlplnjoaaDoor
