/-
  DERIVED. GIVEN WITH THE SEED: THE CARDS: each row of YtgcjhakhepgjlaaDoorRows.lean that lists a variable, with what it lists TIED to the program's text (the seventh form; the later family's looks); each row that meets fmt, with fmt's text TOLD by the authors' own Lean function (tested against real Go, not proved from fmt's source: count such statements apart). THE CARD IS WHAT COUNTS. Prove the row's statement (the work); the ties are given (YtgcjhakhepgjlaaDoorTie.lean); close each card by the builder's one call (the guide's Derived/Test/ToyasCard.lean, 'card_holds'). Laid BY PROGRAM, IN A SANDBOX (cutbox-door.mjs). By AI agents, Wed Nov 11 2026. No macro, syntax, notation, axiom, sorry.
-/
import Derived.Test.YtgcjhakhepgjlaaDoorRows
import GoSem.ClaimSeven
namespace Go.Proofs.YtgcjhakhepgjlaaDoor
namespace Rows

/-- THE TIED CARD OF 'laws.FnExactStrict'. -/
def fnExactStrictCard : Claim7 := { stood := { row := fnExactStrictRow, standIns := [], harness := (true, "e059e838995b36048a8979c5127c2be9324324196a585552b149daea297e947e"), looks := false }, kinds := [], alts := [], laidByText := true, laidKinds := [.sentinel, .sentinel, .sentinel], laidTests := true, laidLooks := .later }
def FnExactStrictCardSaid : Prop := Claim7.holds Tryd.pinned (.plain (OpenSpec.ofChange fnExactStrictSpec)) fnExactStrictCard

/-- THE TIED CARD OF 'laws.FnExactJSON'. -/
def fnExactJSONCard : Claim7 := { stood := { row := fnExactJSONRow, standIns := [], harness := (true, "e059e838995b36048a8979c5127c2be9324324196a585552b149daea297e947e"), looks := false }, kinds := [], alts := [], laidByText := true, laidKinds := [.data], laidTests := true, laidLooks := .later }
def FnExactJSONCardSaid : Prop := Claim7.holds Tryd.pinned (.plain (OpenSpec.ofChange fnExactJSONSpec)) fnExactJSONCard

/-- THE TIED CARD OF 'laws.FnTextYears'. -/
def fnTextYearsCard : Claim7 := { stood := { row := fnTextYearsRow, standIns := [], harness := (true, "e059e838995b36048a8979c5127c2be9324324196a585552b149daea297e947e"), looks := false }, kinds := [], alts := [], laidByText := true, laidKinds := [.data], laidTests := true, laidLooks := .later }
def FnTextYearsCardSaid : Prop := Claim7.holds Tryd.pinned (.plain (OpenSpec.ofChange fnTextYearsSpec)) fnTextYearsCard

/-- THE SECOND FORM's CARD OF 'laws.FnExactStrict'. -/
def fnExactStrictUptoCard : Claim7 := { stood := { row := fnExactStrictUptoRow, standIns := [], harness := (true, "e059e838995b36048a8979c5127c2be9324324196a585552b149daea297e947e"), looks := false }, kinds := [], alts := [], laidByText := true, laidKinds := [.sentinel, .sentinel, .sentinel], laidTests := true, laidLooks := .later }
def FnExactStrictUptoCardSaid : Prop := Claim7.holds Tryd.pinned (.plain (OpenSpec.upto fnExactStrictSpec)) fnExactStrictUptoCard

/-- THE SECOND FORM's CARD OF 'laws.FnExactJSON'. -/
def fnExactJSONUptoCard : Claim7 := { stood := { row := fnExactJSONUptoRow, standIns := [], harness := (true, "e059e838995b36048a8979c5127c2be9324324196a585552b149daea297e947e"), looks := false }, kinds := [], alts := [], laidByText := true, laidKinds := [.data], laidTests := true, laidLooks := .later }
def FnExactJSONUptoCardSaid : Prop := Claim7.holds Tryd.pinned (.plain (OpenSpec.upto fnExactJSONSpec)) fnExactJSONUptoCard

/-- THE SECOND FORM's CARD OF 'laws.FnTextYears'. -/
def fnTextYearsUptoCard : Claim7 := { stood := { row := fnTextYearsUptoRow, standIns := [], harness := (true, "e059e838995b36048a8979c5127c2be9324324196a585552b149daea297e947e"), looks := false }, kinds := [], alts := [], laidByText := true, laidKinds := [.data], laidTests := true, laidLooks := .later }
def FnTextYearsUptoCardSaid : Prop := Claim7.holds Tryd.pinned (.plain (OpenSpec.upto fnTextYearsSpec)) fnTextYearsUptoCard
end Rows
end Go.Proofs.YtgcjhakhepgjlaaDoor
