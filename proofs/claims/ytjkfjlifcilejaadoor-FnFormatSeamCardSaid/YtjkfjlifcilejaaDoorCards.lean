/-
  DERIVED. GIVEN WITH THE SEED: THE CARDS: each row of YtjkfjlifcilejaaDoorRows.lean that lists a variable, with what it lists TIED to the program's text (the seventh form; the later family's looks); each row that meets fmt, with fmt's text TOLD by the authors' own Lean function (tested against real Go, not proved from fmt's source: count such statements apart). THE CARD IS WHAT COUNTS. Prove the row's statement (the work); the ties are given (YtjkfjlifcilejaaDoorTie.lean); close each card by the builder's one call (the guide's Derived/Test/ToyasCard.lean, 'card_holds'). Laid BY PROGRAM, IN A SANDBOX (cutbox-door.mjs). By AI agents, Wed Nov 11 2026. No macro, syntax, notation, axiom, sorry.
-/
import Derived.Test.YtjkfjlifcilejaaDoorRows
import GoSem.ClaimSeven
namespace Go.Proofs.YtjkfjlifcilejaaDoor
namespace Rows

/-- THE TIED CARD OF 'laws.FnFormatAbbreviation'. -/
def fnFormatAbbreviationCard : Claim7 := { stood := { row := fnFormatAbbreviationRow, standIns := [], harness := (true, "bdd5192b6d17022778873d7beb547767407f8f926c6ef3956496878944ecd06e"), looks := false }, kinds := [], alts := [], laidByText := true, laidKinds := [.data], laidTests := true, laidLooks := .later }
def FnFormatAbbreviationCardSaid : Prop := Claim7.holds Tryd.pinned (.plain (OpenSpec.ofChange fnFormatAbbreviationSpec)) fnFormatAbbreviationCard

/-- THE TIED CARD OF 'laws.FnFormatDay'. -/
def fnFormatDayCard : Claim7 := { stood := { row := fnFormatDayRow, standIns := [], harness := (true, "bdd5192b6d17022778873d7beb547767407f8f926c6ef3956496878944ecd06e"), looks := false }, kinds := [], alts := [], laidByText := true, laidKinds := [.data], laidTests := true, laidLooks := .later }
def FnFormatDayCardSaid : Prop := Claim7.holds Tryd.pinned (.plain (OpenSpec.ofChange fnFormatDaySpec)) fnFormatDayCard

/-- THE TIED CARD OF 'laws.FnFormatMinute'. -/
def fnFormatMinuteCard : Claim7 := { stood := { row := fnFormatMinuteRow, standIns := [], harness := (true, "bdd5192b6d17022778873d7beb547767407f8f926c6ef3956496878944ecd06e"), looks := false }, kinds := [], alts := [], laidByText := true, laidKinds := [.data], laidTests := true, laidLooks := .later }
def FnFormatMinuteCardSaid : Prop := Claim7.holds Tryd.pinned (.plain (OpenSpec.ofChange fnFormatMinuteSpec)) fnFormatMinuteCard

/-- THE TIED CARD OF 'laws.FnFormatOffsetSeconds'. -/
def fnFormatOffsetSecondsCard : Claim7 := { stood := { row := fnFormatOffsetSecondsRow, standIns := [], harness := (true, "bdd5192b6d17022778873d7beb547767407f8f926c6ef3956496878944ecd06e"), looks := false }, kinds := [], alts := [], laidByText := true, laidKinds := [.data], laidTests := true, laidLooks := .later }
def FnFormatOffsetSecondsCardSaid : Prop := Claim7.holds Tryd.pinned (.plain (OpenSpec.ofChange fnFormatOffsetSecondsSpec)) fnFormatOffsetSecondsCard

/-- THE TIED CARD OF 'laws.FnFormatSeam'. -/
def fnFormatSeamCard : Claim7 := { stood := { row := fnFormatSeamRow, standIns := [], harness := (true, "bdd5192b6d17022778873d7beb547767407f8f926c6ef3956496878944ecd06e"), looks := false }, kinds := [], alts := [], laidByText := true, laidKinds := [.data], laidTests := true, laidLooks := .later }
def FnFormatSeamCardSaid : Prop := Claim7.holds Tryd.pinned (.plain (OpenSpec.ofChange fnFormatSeamSpec)) fnFormatSeamCard

/-- THE TIED CARD OF 'laws.FnFormatTrimmed'. -/
def fnFormatTrimmedCard : Claim7 := { stood := { row := fnFormatTrimmedRow, standIns := [], harness := (true, "bdd5192b6d17022778873d7beb547767407f8f926c6ef3956496878944ecd06e"), looks := false }, kinds := [], alts := [], laidByText := true, laidKinds := [.data], laidTests := true, laidLooks := .later }
def FnFormatTrimmedCardSaid : Prop := Claim7.holds Tryd.pinned (.plain (OpenSpec.ofChange fnFormatTrimmedSpec)) fnFormatTrimmedCard

/-- THE TIED CARD OF 'laws.FnFormatWeekday'. -/
def fnFormatWeekdayCard : Claim7 := { stood := { row := fnFormatWeekdayRow, standIns := [], harness := (true, "bdd5192b6d17022778873d7beb547767407f8f926c6ef3956496878944ecd06e"), looks := false }, kinds := [], alts := [], laidByText := true, laidKinds := [.data], laidTests := true, laidLooks := .later }
def FnFormatWeekdayCardSaid : Prop := Claim7.holds Tryd.pinned (.plain (OpenSpec.ofChange fnFormatWeekdaySpec)) fnFormatWeekdayCard

/-- THE TIED CARD OF 'laws.FnFormatYear'. -/
def fnFormatYearCard : Claim7 := { stood := { row := fnFormatYearRow, standIns := [], harness := (true, "bdd5192b6d17022778873d7beb547767407f8f926c6ef3956496878944ecd06e"), looks := false }, kinds := [], alts := [], laidByText := true, laidKinds := [.data], laidTests := true, laidLooks := .later }
def FnFormatYearCardSaid : Prop := Claim7.holds Tryd.pinned (.plain (OpenSpec.ofChange fnFormatYearSpec)) fnFormatYearCard

/-- THE TIED CARD OF 'laws.FnStringFormat'. -/
def fnStringFormatCard : Claim7 := { stood := { row := fnStringFormatRow, standIns := [], harness := (true, "bdd5192b6d17022778873d7beb547767407f8f926c6ef3956496878944ecd06e"), looks := false }, kinds := [], alts := [], laidByText := true, laidKinds := [.data], laidTests := true, laidLooks := .later }
def FnStringFormatCardSaid : Prop := Claim7.holds Tryd.pinned (.plain (OpenSpec.ofChange fnStringFormatSpec)) fnStringFormatCard

/-- THE TIED CARD OF 'laws.FnExactAppend'. -/
def fnExactAppendCard : Claim7 := { stood := { row := fnExactAppendRow, standIns := [], harness := (true, "bdd5192b6d17022778873d7beb547767407f8f926c6ef3956496878944ecd06e"), looks := false }, kinds := [], alts := [], laidByText := true, laidKinds := [.data], laidTests := true, laidLooks := .later }
def FnExactAppendCardSaid : Prop := Claim7.holds Tryd.pinned (.plain (OpenSpec.ofChange fnExactAppendSpec)) fnExactAppendCard

/-- THE TIED CARD OF 'laws.FnExactRFC3339'. -/
def fnExactRFC3339Card : Claim7 := { stood := { row := fnExactRFC3339Row, standIns := [], harness := (true, "bdd5192b6d17022778873d7beb547767407f8f926c6ef3956496878944ecd06e"), looks := false }, kinds := [], alts := [], laidByText := true, laidKinds := [.data], laidTests := true, laidLooks := .later }
def FnExactRFC3339CardSaid : Prop := Claim7.holds Tryd.pinned (.plain (OpenSpec.ofChange fnExactRFC3339Spec)) fnExactRFC3339Card

/-- THE SECOND FORM's CARD OF 'laws.FnFormatAbbreviation'. -/
def fnFormatAbbreviationUptoCard : Claim7 := { stood := { row := fnFormatAbbreviationUptoRow, standIns := [], harness := (true, "bdd5192b6d17022778873d7beb547767407f8f926c6ef3956496878944ecd06e"), looks := false }, kinds := [], alts := [], laidByText := true, laidKinds := [.data], laidTests := true, laidLooks := .later }
def FnFormatAbbreviationUptoCardSaid : Prop := Claim7.holds Tryd.pinned (.plain (OpenSpec.upto fnFormatAbbreviationSpec)) fnFormatAbbreviationUptoCard

/-- THE SECOND FORM's CARD OF 'laws.FnFormatDay'. -/
def fnFormatDayUptoCard : Claim7 := { stood := { row := fnFormatDayUptoRow, standIns := [], harness := (true, "bdd5192b6d17022778873d7beb547767407f8f926c6ef3956496878944ecd06e"), looks := false }, kinds := [], alts := [], laidByText := true, laidKinds := [.data], laidTests := true, laidLooks := .later }
def FnFormatDayUptoCardSaid : Prop := Claim7.holds Tryd.pinned (.plain (OpenSpec.upto fnFormatDaySpec)) fnFormatDayUptoCard

/-- THE SECOND FORM's CARD OF 'laws.FnFormatMinute'. -/
def fnFormatMinuteUptoCard : Claim7 := { stood := { row := fnFormatMinuteUptoRow, standIns := [], harness := (true, "bdd5192b6d17022778873d7beb547767407f8f926c6ef3956496878944ecd06e"), looks := false }, kinds := [], alts := [], laidByText := true, laidKinds := [.data], laidTests := true, laidLooks := .later }
def FnFormatMinuteUptoCardSaid : Prop := Claim7.holds Tryd.pinned (.plain (OpenSpec.upto fnFormatMinuteSpec)) fnFormatMinuteUptoCard

/-- THE SECOND FORM's CARD OF 'laws.FnFormatOffsetSeconds'. -/
def fnFormatOffsetSecondsUptoCard : Claim7 := { stood := { row := fnFormatOffsetSecondsUptoRow, standIns := [], harness := (true, "bdd5192b6d17022778873d7beb547767407f8f926c6ef3956496878944ecd06e"), looks := false }, kinds := [], alts := [], laidByText := true, laidKinds := [.data], laidTests := true, laidLooks := .later }
def FnFormatOffsetSecondsUptoCardSaid : Prop := Claim7.holds Tryd.pinned (.plain (OpenSpec.upto fnFormatOffsetSecondsSpec)) fnFormatOffsetSecondsUptoCard

/-- THE SECOND FORM's CARD OF 'laws.FnFormatSeam'. -/
def fnFormatSeamUptoCard : Claim7 := { stood := { row := fnFormatSeamUptoRow, standIns := [], harness := (true, "bdd5192b6d17022778873d7beb547767407f8f926c6ef3956496878944ecd06e"), looks := false }, kinds := [], alts := [], laidByText := true, laidKinds := [.data], laidTests := true, laidLooks := .later }
def FnFormatSeamUptoCardSaid : Prop := Claim7.holds Tryd.pinned (.plain (OpenSpec.upto fnFormatSeamSpec)) fnFormatSeamUptoCard

/-- THE SECOND FORM's CARD OF 'laws.FnFormatTrimmed'. -/
def fnFormatTrimmedUptoCard : Claim7 := { stood := { row := fnFormatTrimmedUptoRow, standIns := [], harness := (true, "bdd5192b6d17022778873d7beb547767407f8f926c6ef3956496878944ecd06e"), looks := false }, kinds := [], alts := [], laidByText := true, laidKinds := [.data], laidTests := true, laidLooks := .later }
def FnFormatTrimmedUptoCardSaid : Prop := Claim7.holds Tryd.pinned (.plain (OpenSpec.upto fnFormatTrimmedSpec)) fnFormatTrimmedUptoCard

/-- THE SECOND FORM's CARD OF 'laws.FnFormatWeekday'. -/
def fnFormatWeekdayUptoCard : Claim7 := { stood := { row := fnFormatWeekdayUptoRow, standIns := [], harness := (true, "bdd5192b6d17022778873d7beb547767407f8f926c6ef3956496878944ecd06e"), looks := false }, kinds := [], alts := [], laidByText := true, laidKinds := [.data], laidTests := true, laidLooks := .later }
def FnFormatWeekdayUptoCardSaid : Prop := Claim7.holds Tryd.pinned (.plain (OpenSpec.upto fnFormatWeekdaySpec)) fnFormatWeekdayUptoCard

/-- THE SECOND FORM's CARD OF 'laws.FnFormatYear'. -/
def fnFormatYearUptoCard : Claim7 := { stood := { row := fnFormatYearUptoRow, standIns := [], harness := (true, "bdd5192b6d17022778873d7beb547767407f8f926c6ef3956496878944ecd06e"), looks := false }, kinds := [], alts := [], laidByText := true, laidKinds := [.data], laidTests := true, laidLooks := .later }
def FnFormatYearUptoCardSaid : Prop := Claim7.holds Tryd.pinned (.plain (OpenSpec.upto fnFormatYearSpec)) fnFormatYearUptoCard

/-- THE SECOND FORM's CARD OF 'laws.FnStringFormat'. -/
def fnStringFormatUptoCard : Claim7 := { stood := { row := fnStringFormatUptoRow, standIns := [], harness := (true, "bdd5192b6d17022778873d7beb547767407f8f926c6ef3956496878944ecd06e"), looks := false }, kinds := [], alts := [], laidByText := true, laidKinds := [.data], laidTests := true, laidLooks := .later }
def FnStringFormatUptoCardSaid : Prop := Claim7.holds Tryd.pinned (.plain (OpenSpec.upto fnStringFormatSpec)) fnStringFormatUptoCard

/-- THE SECOND FORM's CARD OF 'laws.FnExactAppend'. -/
def fnExactAppendUptoCard : Claim7 := { stood := { row := fnExactAppendUptoRow, standIns := [], harness := (true, "bdd5192b6d17022778873d7beb547767407f8f926c6ef3956496878944ecd06e"), looks := false }, kinds := [], alts := [], laidByText := true, laidKinds := [.data], laidTests := true, laidLooks := .later }
def FnExactAppendUptoCardSaid : Prop := Claim7.holds Tryd.pinned (.plain (OpenSpec.upto fnExactAppendSpec)) fnExactAppendUptoCard

/-- THE SECOND FORM's CARD OF 'laws.FnExactRFC3339'. -/
def fnExactRFC3339UptoCard : Claim7 := { stood := { row := fnExactRFC3339UptoRow, standIns := [], harness := (true, "bdd5192b6d17022778873d7beb547767407f8f926c6ef3956496878944ecd06e"), looks := false }, kinds := [], alts := [], laidByText := true, laidKinds := [.data], laidTests := true, laidLooks := .later }
def FnExactRFC3339UptoCardSaid : Prop := Claim7.holds Tryd.pinned (.plain (OpenSpec.upto fnExactRFC3339Spec)) fnExactRFC3339UptoCard
end Rows
end Go.Proofs.YtjkfjlifcilejaaDoor
