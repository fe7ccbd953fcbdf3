/-
  NARROWER THAN 'FOR EVERY INPUT', by the rows' own cells (each row's printed sentence says how): FnFormatAbbreviation: laid · FnFormatDay: laid · FnFormatMinute: laid · FnFormatOffsetSeconds: laid · FnFormatSeam: laid · FnFormatTrimmed: laid · FnFormatWeekday: laid · FnFormatYear: laid · FnStringFormat: laid · FnExactAppend: laid · FnExactRFC3339: laid.
  DERIVED. THE GIVEN ROWS OF THIS SEAT. 11 by the template 'for every input the law returns true; each argument reads behind the call as it read before'; 0 by the template 'total and deterministic' (their statements: YtjkfjlifcilejaaDoorTotals.lean).
  GIVEN WITH THE SEED: the statements are not yours to turn. If you find one false, say at which input.
  Laid BY PROGRAM, IN A SANDBOX (cutbox-rows.mjs): the forced cells as the released guide's own fill.sh prints them over the translation 058bd621cb957371… (all of the seat's roots in one cut). By AI agents, Wed Nov 11 2026. No macro, syntax, notation, axiom, sorry.
-/
import Derived.Test.YtjkfjlifcilejaaDoorChecked
import GoSem.Claim
import GoSem.ClaimJoined
import GoSem.ClaimMapViews
import Derived.JoinedTies
import Derived.KernelRfl
namespace Go.Proofs.YtjkfjlifcilejaaDoor
/- THE CELL 'sum', in the pinned program and in every row, IS THE sha256 OF THE DUMP (.gsa) THAT YtjkfjlifcilejaaDoorProg.lean LOADS. Nothing in Lean hashes anything: it is a label: what it is worth is what the hold of that sum in a sandbox is worth. -/
noncomputable def Tryd.pinned : Pinned := { name := "ytjkfjlifcilejaadoor", sum := "058bd621cb95737192e4c69bd98bf25882c6a1c2d032fe96b53d00db27ca9a10", checked := Tryd.checked }
namespace Rows
def none {H : Type} : Left H := { results := [], args := [] }

/- WHAT THE LISTED PACKAGE-LEVEL VARIABLES READ AS WHEN THE CALL BEGINS. Each datum BY PROGRAM (the guide's laid-datum.mjs) off the statement by which the dump's own 'gosem.cut.vars' lays the variable. In a bare row this is a premise. The card (YtjkfjlifcilejaaDoorCards.lean) ties it to the program's text. -/
def laid_loop_example_pub_timelayouts_pub_gotime_std0x {H : Type} : DataW H := .agg [.lit (.int .i64 260), .lit (.int .i64 265), .lit (.int .i64 1038), .lit (.int .i64 1040), .lit (.int .i64 1042), .lit (.int .i64 276)]

/-- 'laws.FnFormatAbbreviation': WHATEVER THE INPUT: true; the input reads as it did. -/
def fnFormatAbbreviationSpec : ChangeSpec := { name := "fnFormatAbbreviation", vars := ["loop.example/pub-timelayouts/pub/gotime.std0x"], fn := fun _ => fun
  | [d, g1] => { results := [.lit (.bool true)], args := [d], vars := [g1] }
  | _ => none }
def fnFormatAbbreviationRow : OpenClaim := { program := "ytjkfjlifcilejaadoor", sum := "058bd621cb95737192e4c69bd98bf25882c6a1c2d032fe96b53d00db27ca9a10", func := "loop.example/pub-timelayouts/laws.FnFormatAbbreviation", spec := "fnFormatAbbreviation", unfollowed := true, recurses := true, named := ["loop.example/pub-timelayouts/pub/gotime.std0x"], apart := false, laid := [("loop.example/pub-timelayouts/pub/gotime.std0x", laid_loop_example_pub_timelayouts_pub_gotime_std0x)] }
def FnFormatAbbreviationSaid : Prop := fnFormatAbbreviationRow.holds Tryd.pinned (OpenSpec.ofChange fnFormatAbbreviationSpec)

/-- ITS FALSE NEIGHBOUR: 'it returns false'. Refute it at one input. -/
def fnFormatAbbreviationWrong : ChangeSpec := { name := "fnFormatAbbreviation", vars := ["loop.example/pub-timelayouts/pub/gotime.std0x"], fn := fun _ => fun
  | [d, g1] => { results := [.lit (.bool false)], args := [d], vars := [g1] }
  | _ => none }
def FnFormatAbbreviationWrongFalsely : Prop := fnFormatAbbreviationRow.holds Tryd.pinned (OpenSpec.ofChange fnFormatAbbreviationWrong)

/-- 'laws.FnFormatDay': WHATEVER THE INPUT: true; the input reads as it did. -/
def fnFormatDaySpec : ChangeSpec := { name := "fnFormatDay", vars := ["loop.example/pub-timelayouts/pub/gotime.std0x"], fn := fun _ => fun
  | [d, g1] => { results := [.lit (.bool true)], args := [d], vars := [g1] }
  | _ => none }
def fnFormatDayRow : OpenClaim := { program := "ytjkfjlifcilejaadoor", sum := "058bd621cb95737192e4c69bd98bf25882c6a1c2d032fe96b53d00db27ca9a10", func := "loop.example/pub-timelayouts/laws.FnFormatDay", spec := "fnFormatDay", unfollowed := true, recurses := true, named := ["loop.example/pub-timelayouts/pub/gotime.std0x"], apart := false, laid := [("loop.example/pub-timelayouts/pub/gotime.std0x", laid_loop_example_pub_timelayouts_pub_gotime_std0x)] }
def FnFormatDaySaid : Prop := fnFormatDayRow.holds Tryd.pinned (OpenSpec.ofChange fnFormatDaySpec)

/-- ITS FALSE NEIGHBOUR: 'it returns false'. Refute it at one input. -/
def fnFormatDayWrong : ChangeSpec := { name := "fnFormatDay", vars := ["loop.example/pub-timelayouts/pub/gotime.std0x"], fn := fun _ => fun
  | [d, g1] => { results := [.lit (.bool false)], args := [d], vars := [g1] }
  | _ => none }
def FnFormatDayWrongFalsely : Prop := fnFormatDayRow.holds Tryd.pinned (OpenSpec.ofChange fnFormatDayWrong)

/-- 'laws.FnFormatMinute': WHATEVER THE INPUT: true; the input reads as it did. -/
def fnFormatMinuteSpec : ChangeSpec := { name := "fnFormatMinute", vars := ["loop.example/pub-timelayouts/pub/gotime.std0x"], fn := fun _ => fun
  | [d, g1] => { results := [.lit (.bool true)], args := [d], vars := [g1] }
  | _ => none }
def fnFormatMinuteRow : OpenClaim := { program := "ytjkfjlifcilejaadoor", sum := "058bd621cb95737192e4c69bd98bf25882c6a1c2d032fe96b53d00db27ca9a10", func := "loop.example/pub-timelayouts/laws.FnFormatMinute", spec := "fnFormatMinute", unfollowed := true, recurses := true, named := ["loop.example/pub-timelayouts/pub/gotime.std0x"], apart := false, laid := [("loop.example/pub-timelayouts/pub/gotime.std0x", laid_loop_example_pub_timelayouts_pub_gotime_std0x)] }
def FnFormatMinuteSaid : Prop := fnFormatMinuteRow.holds Tryd.pinned (OpenSpec.ofChange fnFormatMinuteSpec)

/-- ITS FALSE NEIGHBOUR: 'it returns false'. Refute it at one input. -/
def fnFormatMinuteWrong : ChangeSpec := { name := "fnFormatMinute", vars := ["loop.example/pub-timelayouts/pub/gotime.std0x"], fn := fun _ => fun
  | [d, g1] => { results := [.lit (.bool false)], args := [d], vars := [g1] }
  | _ => none }
def FnFormatMinuteWrongFalsely : Prop := fnFormatMinuteRow.holds Tryd.pinned (OpenSpec.ofChange fnFormatMinuteWrong)

/-- 'laws.FnFormatOffsetSeconds': WHATEVER THE INPUT: true; the input reads as it did. -/
def fnFormatOffsetSecondsSpec : ChangeSpec := { name := "fnFormatOffsetSeconds", vars := ["loop.example/pub-timelayouts/pub/gotime.std0x"], fn := fun _ => fun
  | [d, g1] => { results := [.lit (.bool true)], args := [d], vars := [g1] }
  | _ => none }
def fnFormatOffsetSecondsRow : OpenClaim := { program := "ytjkfjlifcilejaadoor", sum := "058bd621cb95737192e4c69bd98bf25882c6a1c2d032fe96b53d00db27ca9a10", func := "loop.example/pub-timelayouts/laws.FnFormatOffsetSeconds", spec := "fnFormatOffsetSeconds", unfollowed := true, recurses := true, named := ["loop.example/pub-timelayouts/pub/gotime.std0x"], apart := false, laid := [("loop.example/pub-timelayouts/pub/gotime.std0x", laid_loop_example_pub_timelayouts_pub_gotime_std0x)] }
def FnFormatOffsetSecondsSaid : Prop := fnFormatOffsetSecondsRow.holds Tryd.pinned (OpenSpec.ofChange fnFormatOffsetSecondsSpec)

/-- ITS FALSE NEIGHBOUR: 'it returns false'. Refute it at one input. -/
def fnFormatOffsetSecondsWrong : ChangeSpec := { name := "fnFormatOffsetSeconds", vars := ["loop.example/pub-timelayouts/pub/gotime.std0x"], fn := fun _ => fun
  | [d, g1] => { results := [.lit (.bool false)], args := [d], vars := [g1] }
  | _ => none }
def FnFormatOffsetSecondsWrongFalsely : Prop := fnFormatOffsetSecondsRow.holds Tryd.pinned (OpenSpec.ofChange fnFormatOffsetSecondsWrong)

/-- 'laws.FnFormatSeam': WHATEVER THE INPUT: true; the input reads as it did. -/
def fnFormatSeamSpec : ChangeSpec := { name := "fnFormatSeam", vars := ["loop.example/pub-timelayouts/pub/gotime.std0x"], fn := fun _ => fun
  | [d1, d2, d3, d4, g1] => { results := [.lit (.bool true)], args := [d1, d2, d3, d4], vars := [g1] }
  | _ => none }
def fnFormatSeamRow : OpenClaim := { program := "ytjkfjlifcilejaadoor", sum := "058bd621cb95737192e4c69bd98bf25882c6a1c2d032fe96b53d00db27ca9a10", func := "loop.example/pub-timelayouts/laws.FnFormatSeam", spec := "fnFormatSeam", unfollowed := true, recurses := true, named := ["loop.example/pub-timelayouts/pub/gotime.std0x"], apart := false, laid := [("loop.example/pub-timelayouts/pub/gotime.std0x", laid_loop_example_pub_timelayouts_pub_gotime_std0x)] }
def FnFormatSeamSaid : Prop := fnFormatSeamRow.holds Tryd.pinned (OpenSpec.ofChange fnFormatSeamSpec)

/-- ITS FALSE NEIGHBOUR: 'it returns false'. Refute it at one input. -/
def fnFormatSeamWrong : ChangeSpec := { name := "fnFormatSeam", vars := ["loop.example/pub-timelayouts/pub/gotime.std0x"], fn := fun _ => fun
  | [d1, d2, d3, d4, g1] => { results := [.lit (.bool false)], args := [d1, d2, d3, d4], vars := [g1] }
  | _ => none }
def FnFormatSeamWrongFalsely : Prop := fnFormatSeamRow.holds Tryd.pinned (OpenSpec.ofChange fnFormatSeamWrong)

/-- 'laws.FnFormatTrimmed': WHATEVER THE INPUT: true; the input reads as it did. -/
def fnFormatTrimmedSpec : ChangeSpec := { name := "fnFormatTrimmed", vars := ["loop.example/pub-timelayouts/pub/gotime.std0x"], fn := fun _ => fun
  | [d1, d2, d3, g1] => { results := [.lit (.bool true)], args := [d1, d2, d3], vars := [g1] }
  | _ => none }
def fnFormatTrimmedRow : OpenClaim := { program := "ytjkfjlifcilejaadoor", sum := "058bd621cb95737192e4c69bd98bf25882c6a1c2d032fe96b53d00db27ca9a10", func := "loop.example/pub-timelayouts/laws.FnFormatTrimmed", spec := "fnFormatTrimmed", unfollowed := true, recurses := true, named := ["loop.example/pub-timelayouts/pub/gotime.std0x"], apart := false, laid := [("loop.example/pub-timelayouts/pub/gotime.std0x", laid_loop_example_pub_timelayouts_pub_gotime_std0x)] }
def FnFormatTrimmedSaid : Prop := fnFormatTrimmedRow.holds Tryd.pinned (OpenSpec.ofChange fnFormatTrimmedSpec)

/-- ITS FALSE NEIGHBOUR: 'it returns false'. Refute it at one input. -/
def fnFormatTrimmedWrong : ChangeSpec := { name := "fnFormatTrimmed", vars := ["loop.example/pub-timelayouts/pub/gotime.std0x"], fn := fun _ => fun
  | [d1, d2, d3, g1] => { results := [.lit (.bool false)], args := [d1, d2, d3], vars := [g1] }
  | _ => none }
def FnFormatTrimmedWrongFalsely : Prop := fnFormatTrimmedRow.holds Tryd.pinned (OpenSpec.ofChange fnFormatTrimmedWrong)

/-- 'laws.FnFormatWeekday': WHATEVER THE INPUT: true; the input reads as it did. -/
def fnFormatWeekdaySpec : ChangeSpec := { name := "fnFormatWeekday", vars := ["loop.example/pub-timelayouts/pub/gotime.std0x"], fn := fun _ => fun
  | [d, g1] => { results := [.lit (.bool true)], args := [d], vars := [g1] }
  | _ => none }
def fnFormatWeekdayRow : OpenClaim := { program := "ytjkfjlifcilejaadoor", sum := "058bd621cb95737192e4c69bd98bf25882c6a1c2d032fe96b53d00db27ca9a10", func := "loop.example/pub-timelayouts/laws.FnFormatWeekday", spec := "fnFormatWeekday", unfollowed := true, recurses := true, named := ["loop.example/pub-timelayouts/pub/gotime.std0x"], apart := false, laid := [("loop.example/pub-timelayouts/pub/gotime.std0x", laid_loop_example_pub_timelayouts_pub_gotime_std0x)] }
def FnFormatWeekdaySaid : Prop := fnFormatWeekdayRow.holds Tryd.pinned (OpenSpec.ofChange fnFormatWeekdaySpec)

/-- ITS FALSE NEIGHBOUR: 'it returns false'. Refute it at one input. -/
def fnFormatWeekdayWrong : ChangeSpec := { name := "fnFormatWeekday", vars := ["loop.example/pub-timelayouts/pub/gotime.std0x"], fn := fun _ => fun
  | [d, g1] => { results := [.lit (.bool false)], args := [d], vars := [g1] }
  | _ => none }
def FnFormatWeekdayWrongFalsely : Prop := fnFormatWeekdayRow.holds Tryd.pinned (OpenSpec.ofChange fnFormatWeekdayWrong)

/-- 'laws.FnFormatYear': WHATEVER THE INPUT: true; the input reads as it did. -/
def fnFormatYearSpec : ChangeSpec := { name := "fnFormatYear", vars := ["loop.example/pub-timelayouts/pub/gotime.std0x"], fn := fun _ => fun
  | [d, g1] => { results := [.lit (.bool true)], args := [d], vars := [g1] }
  | _ => none }
def fnFormatYearRow : OpenClaim := { program := "ytjkfjlifcilejaadoor", sum := "058bd621cb95737192e4c69bd98bf25882c6a1c2d032fe96b53d00db27ca9a10", func := "loop.example/pub-timelayouts/laws.FnFormatYear", spec := "fnFormatYear", unfollowed := true, recurses := true, named := ["loop.example/pub-timelayouts/pub/gotime.std0x"], apart := false, laid := [("loop.example/pub-timelayouts/pub/gotime.std0x", laid_loop_example_pub_timelayouts_pub_gotime_std0x)] }
def FnFormatYearSaid : Prop := fnFormatYearRow.holds Tryd.pinned (OpenSpec.ofChange fnFormatYearSpec)

/-- ITS FALSE NEIGHBOUR: 'it returns false'. Refute it at one input. -/
def fnFormatYearWrong : ChangeSpec := { name := "fnFormatYear", vars := ["loop.example/pub-timelayouts/pub/gotime.std0x"], fn := fun _ => fun
  | [d, g1] => { results := [.lit (.bool false)], args := [d], vars := [g1] }
  | _ => none }
def FnFormatYearWrongFalsely : Prop := fnFormatYearRow.holds Tryd.pinned (OpenSpec.ofChange fnFormatYearWrong)

/-- 'laws.FnStringFormat': WHATEVER THE INPUT: true; the input reads as it did. -/
def fnStringFormatSpec : ChangeSpec := { name := "fnStringFormat", vars := ["loop.example/pub-timelayouts/pub/gotime.std0x"], fn := fun _ => fun
  | [d, g1] => { results := [.lit (.bool true)], args := [d], vars := [g1] }
  | _ => none }
def fnStringFormatRow : OpenClaim := { program := "ytjkfjlifcilejaadoor", sum := "058bd621cb95737192e4c69bd98bf25882c6a1c2d032fe96b53d00db27ca9a10", func := "loop.example/pub-timelayouts/laws.FnStringFormat", spec := "fnStringFormat", unfollowed := true, recurses := true, named := ["loop.example/pub-timelayouts/pub/gotime.std0x"], apart := false, laid := [("loop.example/pub-timelayouts/pub/gotime.std0x", laid_loop_example_pub_timelayouts_pub_gotime_std0x)] }
def FnStringFormatSaid : Prop := fnStringFormatRow.holds Tryd.pinned (OpenSpec.ofChange fnStringFormatSpec)

/-- ITS FALSE NEIGHBOUR: 'it returns false'. Refute it at one input. -/
def fnStringFormatWrong : ChangeSpec := { name := "fnStringFormat", vars := ["loop.example/pub-timelayouts/pub/gotime.std0x"], fn := fun _ => fun
  | [d, g1] => { results := [.lit (.bool false)], args := [d], vars := [g1] }
  | _ => none }
def FnStringFormatWrongFalsely : Prop := fnStringFormatRow.holds Tryd.pinned (OpenSpec.ofChange fnStringFormatWrong)

/-- 'laws.FnExactAppend': WHATEVER THE INPUT: true; the input reads as it did. -/
def fnExactAppendSpec : ChangeSpec := { name := "fnExactAppend", vars := ["loop.example/pub-timelayouts/pub/gotime.std0x"], fn := fun _ => fun
  | [d1, d2, d3, g1] => { results := [.lit (.bool true)], args := [d1, d2, d3], vars := [g1] }
  | _ => none }
def fnExactAppendRow : OpenClaim := { program := "ytjkfjlifcilejaadoor", sum := "058bd621cb95737192e4c69bd98bf25882c6a1c2d032fe96b53d00db27ca9a10", func := "loop.example/pub-timelayouts/laws.FnExactAppend", spec := "fnExactAppend", unfollowed := true, recurses := true, named := ["loop.example/pub-timelayouts/pub/gotime.std0x"], apart := false, laid := [("loop.example/pub-timelayouts/pub/gotime.std0x", laid_loop_example_pub_timelayouts_pub_gotime_std0x)] }
def FnExactAppendSaid : Prop := fnExactAppendRow.holds Tryd.pinned (OpenSpec.ofChange fnExactAppendSpec)

/-- ITS FALSE NEIGHBOUR: 'it returns false'. Refute it at one input. -/
def fnExactAppendWrong : ChangeSpec := { name := "fnExactAppend", vars := ["loop.example/pub-timelayouts/pub/gotime.std0x"], fn := fun _ => fun
  | [d1, d2, d3, g1] => { results := [.lit (.bool false)], args := [d1, d2, d3], vars := [g1] }
  | _ => none }
def FnExactAppendWrongFalsely : Prop := fnExactAppendRow.holds Tryd.pinned (OpenSpec.ofChange fnExactAppendWrong)

/-- 'laws.FnExactRFC3339': WHATEVER THE INPUT: true; the input reads as it did. -/
def fnExactRFC3339Spec : ChangeSpec := { name := "fnExactRFC3339", vars := ["loop.example/pub-timelayouts/pub/gotime.std0x"], fn := fun _ => fun
  | [d1, d2, d3, g1] => { results := [.lit (.bool true)], args := [d1, d2, d3], vars := [g1] }
  | _ => none }
def fnExactRFC3339Row : OpenClaim := { program := "ytjkfjlifcilejaadoor", sum := "058bd621cb95737192e4c69bd98bf25882c6a1c2d032fe96b53d00db27ca9a10", func := "loop.example/pub-timelayouts/laws.FnExactRFC3339", spec := "fnExactRFC3339", unfollowed := true, recurses := true, named := ["loop.example/pub-timelayouts/pub/gotime.std0x"], apart := false, laid := [("loop.example/pub-timelayouts/pub/gotime.std0x", laid_loop_example_pub_timelayouts_pub_gotime_std0x)] }
def FnExactRFC3339Said : Prop := fnExactRFC3339Row.holds Tryd.pinned (OpenSpec.ofChange fnExactRFC3339Spec)

/-- ITS FALSE NEIGHBOUR: 'it returns false'. Refute it at one input. -/
def fnExactRFC3339Wrong : ChangeSpec := { name := "fnExactRFC3339", vars := ["loop.example/pub-timelayouts/pub/gotime.std0x"], fn := fun _ => fun
  | [d1, d2, d3, g1] => { results := [.lit (.bool false)], args := [d1, d2, d3], vars := [g1] }
  | _ => none }
def FnExactRFC3339WrongFalsely : Prop := fnExactRFC3339Row.holds Tryd.pinned (OpenSpec.ofChange fnExactRFC3339Wrong)

/- THE SECOND FORM. 'bulk': how many values and letters a reading holds, each counted each time it is reached (what is shared counts as often as it is met; a slice's spare places count too). A statement '..UptoSaid' is the law's where the arguments, and the package variables that the reading takes, are together of bulk at most 1048576: NARROWER than '..Said'. Prove '..Said' where nothing that the law and all that it calls make is longer than what came in: it says more and counts as full. Else prove '..UptoSaid'. A law counts once. -/
mutual
def uptoBulk {H : Type} : DataW H → Nat
  | .lit (.string bytes) => bytes.length + 1
  | .lit _ => 1
  | .nil => 1
  | .ptr d => uptoBulk d + 1
  | .slice elems spare => uptoBulkAll elems + uptoBulkAll spare + 1
  | .agg parts => uptoBulkAll parts + 1
  | .iface _ d => uptoBulk d + 1
  | .map entries => uptoBulkEntries entries + 1
  | .held _ => 1
def uptoBulkAll {H : Type} : List (DataW H) → Nat
  | [] => 0
  | d :: r => uptoBulk d + uptoBulkAll r
def uptoBulkEntries {H : Type} : List (Lit × DataW H) → Nat
  | [] => 0
  | x :: r => uptoBulkEntry x + uptoBulkEntries r
def uptoBulkEntry {H : Type} : Lit × DataW H → Nat
  | (.string bytes, d) => bytes.length + uptoBulk d + 1
  | (_, d) => uptoBulk d + 1
 end
def uptoSmall : (H : Type) → List (DataW H) → Bool := fun _ ds => decide (uptoBulkAll ds ≤ 1048576)
def OpenSpec.upto (s : _root_.Go.ChangeSpec) : _root_.Go.OpenSpec := { _root_.Go.OpenSpec.ofChange s with cond := some uptoSmall }

/-- 'laws.FnFormatAbbreviation', WHERE WHAT IT READS IS OF BULK AT MOST 1048576: true; the input reads as it did. -/
def fnFormatAbbreviationUptoRow : OpenClaim := { program := "ytjkfjlifcilejaadoor", sum := "058bd621cb95737192e4c69bd98bf25882c6a1c2d032fe96b53d00db27ca9a10", func := "loop.example/pub-timelayouts/laws.FnFormatAbbreviation", spec := "fnFormatAbbreviation", unfollowed := true, recurses := true, named := ["loop.example/pub-timelayouts/pub/gotime.std0x"], apart := false, laid := [("loop.example/pub-timelayouts/pub/gotime.std0x", laid_loop_example_pub_timelayouts_pub_gotime_std0x)], narrowed := true }
def FnFormatAbbreviationUptoSaid : Prop := fnFormatAbbreviationUptoRow.holds Tryd.pinned (OpenSpec.upto fnFormatAbbreviationSpec)

/-- 'laws.FnFormatDay', WHERE WHAT IT READS IS OF BULK AT MOST 1048576: true; the input reads as it did. -/
def fnFormatDayUptoRow : OpenClaim := { program := "ytjkfjlifcilejaadoor", sum := "058bd621cb95737192e4c69bd98bf25882c6a1c2d032fe96b53d00db27ca9a10", func := "loop.example/pub-timelayouts/laws.FnFormatDay", spec := "fnFormatDay", unfollowed := true, recurses := true, named := ["loop.example/pub-timelayouts/pub/gotime.std0x"], apart := false, laid := [("loop.example/pub-timelayouts/pub/gotime.std0x", laid_loop_example_pub_timelayouts_pub_gotime_std0x)], narrowed := true }
def FnFormatDayUptoSaid : Prop := fnFormatDayUptoRow.holds Tryd.pinned (OpenSpec.upto fnFormatDaySpec)

/-- 'laws.FnFormatMinute', WHERE WHAT IT READS IS OF BULK AT MOST 1048576: true; the input reads as it did. -/
def fnFormatMinuteUptoRow : OpenClaim := { program := "ytjkfjlifcilejaadoor", sum := "058bd621cb95737192e4c69bd98bf25882c6a1c2d032fe96b53d00db27ca9a10", func := "loop.example/pub-timelayouts/laws.FnFormatMinute", spec := "fnFormatMinute", unfollowed := true, recurses := true, named := ["loop.example/pub-timelayouts/pub/gotime.std0x"], apart := false, laid := [("loop.example/pub-timelayouts/pub/gotime.std0x", laid_loop_example_pub_timelayouts_pub_gotime_std0x)], narrowed := true }
def FnFormatMinuteUptoSaid : Prop := fnFormatMinuteUptoRow.holds Tryd.pinned (OpenSpec.upto fnFormatMinuteSpec)

/-- 'laws.FnFormatOffsetSeconds', WHERE WHAT IT READS IS OF BULK AT MOST 1048576: true; the input reads as it did. -/
def fnFormatOffsetSecondsUptoRow : OpenClaim := { program := "ytjkfjlifcilejaadoor", sum := "058bd621cb95737192e4c69bd98bf25882c6a1c2d032fe96b53d00db27ca9a10", func := "loop.example/pub-timelayouts/laws.FnFormatOffsetSeconds", spec := "fnFormatOffsetSeconds", unfollowed := true, recurses := true, named := ["loop.example/pub-timelayouts/pub/gotime.std0x"], apart := false, laid := [("loop.example/pub-timelayouts/pub/gotime.std0x", laid_loop_example_pub_timelayouts_pub_gotime_std0x)], narrowed := true }
def FnFormatOffsetSecondsUptoSaid : Prop := fnFormatOffsetSecondsUptoRow.holds Tryd.pinned (OpenSpec.upto fnFormatOffsetSecondsSpec)

/-- 'laws.FnFormatSeam', WHERE WHAT IT READS IS OF BULK AT MOST 1048576: true; the input reads as it did. -/
def fnFormatSeamUptoRow : OpenClaim := { program := "ytjkfjlifcilejaadoor", sum := "058bd621cb95737192e4c69bd98bf25882c6a1c2d032fe96b53d00db27ca9a10", func := "loop.example/pub-timelayouts/laws.FnFormatSeam", spec := "fnFormatSeam", unfollowed := true, recurses := true, named := ["loop.example/pub-timelayouts/pub/gotime.std0x"], apart := false, laid := [("loop.example/pub-timelayouts/pub/gotime.std0x", laid_loop_example_pub_timelayouts_pub_gotime_std0x)], narrowed := true }
def FnFormatSeamUptoSaid : Prop := fnFormatSeamUptoRow.holds Tryd.pinned (OpenSpec.upto fnFormatSeamSpec)

/-- 'laws.FnFormatTrimmed', WHERE WHAT IT READS IS OF BULK AT MOST 1048576: true; the input reads as it did. -/
def fnFormatTrimmedUptoRow : OpenClaim := { program := "ytjkfjlifcilejaadoor", sum := "058bd621cb95737192e4c69bd98bf25882c6a1c2d032fe96b53d00db27ca9a10", func := "loop.example/pub-timelayouts/laws.FnFormatTrimmed", spec := "fnFormatTrimmed", unfollowed := true, recurses := true, named := ["loop.example/pub-timelayouts/pub/gotime.std0x"], apart := false, laid := [("loop.example/pub-timelayouts/pub/gotime.std0x", laid_loop_example_pub_timelayouts_pub_gotime_std0x)], narrowed := true }
def FnFormatTrimmedUptoSaid : Prop := fnFormatTrimmedUptoRow.holds Tryd.pinned (OpenSpec.upto fnFormatTrimmedSpec)

/-- 'laws.FnFormatWeekday', WHERE WHAT IT READS IS OF BULK AT MOST 1048576: true; the input reads as it did. -/
def fnFormatWeekdayUptoRow : OpenClaim := { program := "ytjkfjlifcilejaadoor", sum := "058bd621cb95737192e4c69bd98bf25882c6a1c2d032fe96b53d00db27ca9a10", func := "loop.example/pub-timelayouts/laws.FnFormatWeekday", spec := "fnFormatWeekday", unfollowed := true, recurses := true, named := ["loop.example/pub-timelayouts/pub/gotime.std0x"], apart := false, laid := [("loop.example/pub-timelayouts/pub/gotime.std0x", laid_loop_example_pub_timelayouts_pub_gotime_std0x)], narrowed := true }
def FnFormatWeekdayUptoSaid : Prop := fnFormatWeekdayUptoRow.holds Tryd.pinned (OpenSpec.upto fnFormatWeekdaySpec)

/-- 'laws.FnFormatYear', WHERE WHAT IT READS IS OF BULK AT MOST 1048576: true; the input reads as it did. -/
def fnFormatYearUptoRow : OpenClaim := { program := "ytjkfjlifcilejaadoor", sum := "058bd621cb95737192e4c69bd98bf25882c6a1c2d032fe96b53d00db27ca9a10", func := "loop.example/pub-timelayouts/laws.FnFormatYear", spec := "fnFormatYear", unfollowed := true, recurses := true, named := ["loop.example/pub-timelayouts/pub/gotime.std0x"], apart := false, laid := [("loop.example/pub-timelayouts/pub/gotime.std0x", laid_loop_example_pub_timelayouts_pub_gotime_std0x)], narrowed := true }
def FnFormatYearUptoSaid : Prop := fnFormatYearUptoRow.holds Tryd.pinned (OpenSpec.upto fnFormatYearSpec)

/-- 'laws.FnStringFormat', WHERE WHAT IT READS IS OF BULK AT MOST 1048576: true; the input reads as it did. -/
def fnStringFormatUptoRow : OpenClaim := { program := "ytjkfjlifcilejaadoor", sum := "058bd621cb95737192e4c69bd98bf25882c6a1c2d032fe96b53d00db27ca9a10", func := "loop.example/pub-timelayouts/laws.FnStringFormat", spec := "fnStringFormat", unfollowed := true, recurses := true, named := ["loop.example/pub-timelayouts/pub/gotime.std0x"], apart := false, laid := [("loop.example/pub-timelayouts/pub/gotime.std0x", laid_loop_example_pub_timelayouts_pub_gotime_std0x)], narrowed := true }
def FnStringFormatUptoSaid : Prop := fnStringFormatUptoRow.holds Tryd.pinned (OpenSpec.upto fnStringFormatSpec)

/-- 'laws.FnExactAppend', WHERE WHAT IT READS IS OF BULK AT MOST 1048576: true; the input reads as it did. -/
def fnExactAppendUptoRow : OpenClaim := { program := "ytjkfjlifcilejaadoor", sum := "058bd621cb95737192e4c69bd98bf25882c6a1c2d032fe96b53d00db27ca9a10", func := "loop.example/pub-timelayouts/laws.FnExactAppend", spec := "fnExactAppend", unfollowed := true, recurses := true, named := ["loop.example/pub-timelayouts/pub/gotime.std0x"], apart := false, laid := [("loop.example/pub-timelayouts/pub/gotime.std0x", laid_loop_example_pub_timelayouts_pub_gotime_std0x)], narrowed := true }
def FnExactAppendUptoSaid : Prop := fnExactAppendUptoRow.holds Tryd.pinned (OpenSpec.upto fnExactAppendSpec)

/-- 'laws.FnExactRFC3339', WHERE WHAT IT READS IS OF BULK AT MOST 1048576: true; the input reads as it did. -/
def fnExactRFC3339UptoRow : OpenClaim := { program := "ytjkfjlifcilejaadoor", sum := "058bd621cb95737192e4c69bd98bf25882c6a1c2d032fe96b53d00db27ca9a10", func := "loop.example/pub-timelayouts/laws.FnExactRFC3339", spec := "fnExactRFC3339", unfollowed := true, recurses := true, named := ["loop.example/pub-timelayouts/pub/gotime.std0x"], apart := false, laid := [("loop.example/pub-timelayouts/pub/gotime.std0x", laid_loop_example_pub_timelayouts_pub_gotime_std0x)], narrowed := true }
def FnExactRFC3339UptoSaid : Prop := fnExactRFC3339UptoRow.holds Tryd.pinned (OpenSpec.upto fnExactRFC3339Spec)

end Rows
end Go.Proofs.YtjkfjlifcilejaaDoor
