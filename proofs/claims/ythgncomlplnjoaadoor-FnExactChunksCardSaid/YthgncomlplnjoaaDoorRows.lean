/-
  NARROWER THAN 'FOR EVERY INPUT', by the rows' own cells (each row's printed sentence says how): FnExactAtoi: ifaces, laid · FnExactGMT: ifaces, laid · FnNanosecondsMark: ifaces, laid · FnTimeZoneFew: ifaces, laid · FnChunkElement: laid · FnExactChunks: laid.
  DERIVED. THE GIVEN ROWS OF THIS SEAT. 6 by the template 'for every input the law returns true; each argument reads behind the call as it read before'; 0 by the template 'total and deterministic' (their statements: YthgncomlplnjoaaDoorTotals.lean).
  GIVEN WITH THE SEED: the statements are not yours to turn. If you find one false, say at which input.
  Laid BY PROGRAM, IN A SANDBOX (cutbox-rows.mjs): the forced cells as the released guide's own fill.sh prints them over the translation 0c9fbd594ffb64de… (all of the seat's roots in one cut). By AI agents, Wed Nov 11 2026. No macro, syntax, notation, axiom, sorry.
-/
import Derived.Test.YthgncomlplnjoaaDoorChecked
import GoSem.Claim
import GoSem.ClaimJoined
import GoSem.ClaimMapViews
import Derived.JoinedTies
import Derived.KernelRfl
namespace Go.Proofs.YthgncomlplnjoaaDoor
/- THE CELL 'sum', in the pinned program and in every row, IS THE sha256 OF THE DUMP (.gsa) THAT YthgncomlplnjoaaDoorProg.lean LOADS. Nothing in Lean hashes anything: it is a label: what it is worth is what the hold of that sum in a sandbox is worth. -/
noncomputable def Tryd.pinned : Pinned := { name := "ythgncomlplnjoaadoor", sum := "0c9fbd594ffb64def180cdc1680b65b8b16df311ccffb4d2d9ff2cf49fe0822c", checked := Tryd.checked }
namespace Rows
def none {H : Type} : Left H := { results := [], args := [] }

/- WHAT THE LISTED PACKAGE-LEVEL VARIABLES READ AS WHEN THE CALL BEGINS. Each datum BY PROGRAM (the guide's laid-datum.mjs) off the statement by which the dump's own 'gosem.cut.vars' lays the variable. In a bare row this is a premise. The card (YthgncomlplnjoaaDoorCards.lean) ties it to the program's text. -/
def laid_loop_example_pub_timelayouts_pub_gotime_errAtoi {H : Type} : DataW H := .iface "*errors.errorString" (.ptr (.agg [.lit (.string [116, 105, 109, 101, 58, 32, 105, 110, 118, 97, 108, 105, 100, 32, 110, 117, 109, 98, 101, 114])]))
def laid_loop_example_pub_timelayouts_pub_gotime_errLeadingInt {H : Type} : DataW H := .iface "*errors.errorString" (.ptr (.agg [.lit (.string [116, 105, 109, 101, 58, 32, 98, 97, 100, 32, 91, 48, 45, 57, 93, 42])]))
def laid_loop_example_pub_timelayouts_pub_gotime_errBad {H : Type} : DataW H := .iface "*errors.errorString" (.ptr (.agg [.lit (.string [98, 97, 100, 32, 118, 97, 108, 117, 101, 32, 102, 111, 114, 32, 102, 105, 101, 108, 100])]))
def laid_loop_example_pub_timelayouts_pub_gotime_std0x {H : Type} : DataW H := .agg [.lit (.int .i64 260), .lit (.int .i64 265), .lit (.int .i64 1038), .lit (.int .i64 1040), .lit (.int .i64 1042), .lit (.int .i64 276)]

/-- 'laws.FnExactAtoi': WHATEVER THE INPUT: true; the input reads as it did. -/
def fnExactAtoiSpec : ChangeSpec := { name := "fnExactAtoi", vars := ["loop.example/pub-timelayouts/pub/gotime.errAtoi", "loop.example/pub-timelayouts/pub/gotime.errLeadingInt"], fn := fun _ => fun
  | [d1, d2, g1, g2] => { results := [.lit (.bool true)], args := [d1, d2], vars := [g1, g2] }
  | _ => none }
def fnExactAtoiRow : OpenClaim := { program := "ythgncomlplnjoaadoor", sum := "0c9fbd594ffb64def180cdc1680b65b8b16df311ccffb4d2d9ff2cf49fe0822c", func := "loop.example/pub-timelayouts/laws.FnExactAtoi", spec := "fnExactAtoi", named := ["loop.example/pub-timelayouts/pub/gotime.errAtoi", "loop.example/pub-timelayouts/pub/gotime.errLeadingInt"], ifaces := true, apart := false, laid := [("loop.example/pub-timelayouts/pub/gotime.errAtoi", laid_loop_example_pub_timelayouts_pub_gotime_errAtoi), ("loop.example/pub-timelayouts/pub/gotime.errLeadingInt", laid_loop_example_pub_timelayouts_pub_gotime_errLeadingInt)] }
def FnExactAtoiSaid : Prop := fnExactAtoiRow.holds Tryd.pinned (OpenSpec.ofChange fnExactAtoiSpec)

/-- ITS FALSE NEIGHBOUR: 'it returns false'. Refute it at one input. -/
def fnExactAtoiWrong : ChangeSpec := { name := "fnExactAtoi", vars := ["loop.example/pub-timelayouts/pub/gotime.errAtoi", "loop.example/pub-timelayouts/pub/gotime.errLeadingInt"], fn := fun _ => fun
  | [d1, d2, g1, g2] => { results := [.lit (.bool false)], args := [d1, d2], vars := [g1, g2] }
  | _ => none }
def FnExactAtoiWrongFalsely : Prop := fnExactAtoiRow.holds Tryd.pinned (OpenSpec.ofChange fnExactAtoiWrong)

/-- 'laws.FnExactGMT': WHATEVER THE INPUT: true; the input reads as it did. -/
def fnExactGMTSpec : ChangeSpec := { name := "fnExactGMT", vars := ["loop.example/pub-timelayouts/pub/gotime.errLeadingInt"], fn := fun _ => fun
  | [d, g1] => { results := [.lit (.bool true)], args := [d], vars := [g1] }
  | _ => none }
def fnExactGMTRow : OpenClaim := { program := "ythgncomlplnjoaadoor", sum := "0c9fbd594ffb64def180cdc1680b65b8b16df311ccffb4d2d9ff2cf49fe0822c", func := "loop.example/pub-timelayouts/laws.FnExactGMT", spec := "fnExactGMT", named := ["loop.example/pub-timelayouts/pub/gotime.errLeadingInt"], ifaces := true, apart := false, laid := [("loop.example/pub-timelayouts/pub/gotime.errLeadingInt", laid_loop_example_pub_timelayouts_pub_gotime_errLeadingInt)] }
def FnExactGMTSaid : Prop := fnExactGMTRow.holds Tryd.pinned (OpenSpec.ofChange fnExactGMTSpec)

/-- ITS FALSE NEIGHBOUR: 'it returns false'. Refute it at one input. -/
def fnExactGMTWrong : ChangeSpec := { name := "fnExactGMT", vars := ["loop.example/pub-timelayouts/pub/gotime.errLeadingInt"], fn := fun _ => fun
  | [d, g1] => { results := [.lit (.bool false)], args := [d], vars := [g1] }
  | _ => none }
def FnExactGMTWrongFalsely : Prop := fnExactGMTRow.holds Tryd.pinned (OpenSpec.ofChange fnExactGMTWrong)

/-- 'laws.FnNanosecondsMark': WHATEVER THE INPUT: true; the input reads as it did. -/
def fnNanosecondsMarkSpec : ChangeSpec := { name := "fnNanosecondsMark", vars := ["loop.example/pub-timelayouts/pub/gotime.errBad", "loop.example/pub-timelayouts/pub/gotime.errAtoi", "loop.example/pub-timelayouts/pub/gotime.errLeadingInt"], fn := fun _ => fun
  | [d1, d2, g1, g2, g3] => { results := [.lit (.bool true)], args := [d1, d2], vars := [g1, g2, g3] }
  | _ => none }
def fnNanosecondsMarkRow : OpenClaim := { program := "ythgncomlplnjoaadoor", sum := "0c9fbd594ffb64def180cdc1680b65b8b16df311ccffb4d2d9ff2cf49fe0822c", func := "loop.example/pub-timelayouts/laws.FnNanosecondsMark", spec := "fnNanosecondsMark", named := ["loop.example/pub-timelayouts/pub/gotime.errBad", "loop.example/pub-timelayouts/pub/gotime.errAtoi", "loop.example/pub-timelayouts/pub/gotime.errLeadingInt"], ifaces := true, apart := false, laid := [("loop.example/pub-timelayouts/pub/gotime.errAtoi", laid_loop_example_pub_timelayouts_pub_gotime_errAtoi), ("loop.example/pub-timelayouts/pub/gotime.errBad", laid_loop_example_pub_timelayouts_pub_gotime_errBad), ("loop.example/pub-timelayouts/pub/gotime.errLeadingInt", laid_loop_example_pub_timelayouts_pub_gotime_errLeadingInt)] }
def FnNanosecondsMarkSaid : Prop := fnNanosecondsMarkRow.holds Tryd.pinned (OpenSpec.ofChange fnNanosecondsMarkSpec)

/-- ITS FALSE NEIGHBOUR: 'it returns false'. Refute it at one input. -/
def fnNanosecondsMarkWrong : ChangeSpec := { name := "fnNanosecondsMark", vars := ["loop.example/pub-timelayouts/pub/gotime.errBad", "loop.example/pub-timelayouts/pub/gotime.errAtoi", "loop.example/pub-timelayouts/pub/gotime.errLeadingInt"], fn := fun _ => fun
  | [d1, d2, g1, g2, g3] => { results := [.lit (.bool false)], args := [d1, d2], vars := [g1, g2, g3] }
  | _ => none }
def FnNanosecondsMarkWrongFalsely : Prop := fnNanosecondsMarkRow.holds Tryd.pinned (OpenSpec.ofChange fnNanosecondsMarkWrong)

/-- 'laws.FnTimeZoneFew': WHATEVER THE INPUT: true; the input reads as it did. -/
def fnTimeZoneFewSpec : ChangeSpec := { name := "fnTimeZoneFew", vars := ["loop.example/pub-timelayouts/pub/gotime.errLeadingInt"], fn := fun _ => fun
  | [d1, d2, g1] => { results := [.lit (.bool true)], args := [d1, d2], vars := [g1] }
  | _ => none }
def fnTimeZoneFewRow : OpenClaim := { program := "ythgncomlplnjoaadoor", sum := "0c9fbd594ffb64def180cdc1680b65b8b16df311ccffb4d2d9ff2cf49fe0822c", func := "loop.example/pub-timelayouts/laws.FnTimeZoneFew", spec := "fnTimeZoneFew", named := ["loop.example/pub-timelayouts/pub/gotime.errLeadingInt"], ifaces := true, apart := false, laid := [("loop.example/pub-timelayouts/pub/gotime.errLeadingInt", laid_loop_example_pub_timelayouts_pub_gotime_errLeadingInt)] }
def FnTimeZoneFewSaid : Prop := fnTimeZoneFewRow.holds Tryd.pinned (OpenSpec.ofChange fnTimeZoneFewSpec)

/-- ITS FALSE NEIGHBOUR: 'it returns false'. Refute it at one input. -/
def fnTimeZoneFewWrong : ChangeSpec := { name := "fnTimeZoneFew", vars := ["loop.example/pub-timelayouts/pub/gotime.errLeadingInt"], fn := fun _ => fun
  | [d1, d2, g1] => { results := [.lit (.bool false)], args := [d1, d2], vars := [g1] }
  | _ => none }
def FnTimeZoneFewWrongFalsely : Prop := fnTimeZoneFewRow.holds Tryd.pinned (OpenSpec.ofChange fnTimeZoneFewWrong)

/-- 'laws.FnChunkElement': WHATEVER THE INPUT: true; the input reads as it did. -/
def fnChunkElementSpec : ChangeSpec := { name := "fnChunkElement", vars := ["loop.example/pub-timelayouts/pub/gotime.std0x"], fn := fun _ => fun
  | [d, g1] => { results := [.lit (.bool true)], args := [d], vars := [g1] }
  | _ => none }
def fnChunkElementRow : OpenClaim := { program := "ythgncomlplnjoaadoor", sum := "0c9fbd594ffb64def180cdc1680b65b8b16df311ccffb4d2d9ff2cf49fe0822c", func := "loop.example/pub-timelayouts/laws.FnChunkElement", spec := "fnChunkElement", named := ["loop.example/pub-timelayouts/pub/gotime.std0x"], apart := false, laid := [("loop.example/pub-timelayouts/pub/gotime.std0x", laid_loop_example_pub_timelayouts_pub_gotime_std0x)] }
def FnChunkElementSaid : Prop := fnChunkElementRow.holds Tryd.pinned (OpenSpec.ofChange fnChunkElementSpec)

/-- ITS FALSE NEIGHBOUR: 'it returns false'. Refute it at one input. -/
def fnChunkElementWrong : ChangeSpec := { name := "fnChunkElement", vars := ["loop.example/pub-timelayouts/pub/gotime.std0x"], fn := fun _ => fun
  | [d, g1] => { results := [.lit (.bool false)], args := [d], vars := [g1] }
  | _ => none }
def FnChunkElementWrongFalsely : Prop := fnChunkElementRow.holds Tryd.pinned (OpenSpec.ofChange fnChunkElementWrong)

/-- 'laws.FnExactChunks': WHATEVER THE INPUT: true; the input reads as it did. -/
def fnExactChunksSpec : ChangeSpec := { name := "fnExactChunks", vars := ["loop.example/pub-timelayouts/pub/gotime.std0x"], fn := fun _ => fun
  | [d, g1] => { results := [.lit (.bool true)], args := [d], vars := [g1] }
  | _ => none }
def fnExactChunksRow : OpenClaim := { program := "ythgncomlplnjoaadoor", sum := "0c9fbd594ffb64def180cdc1680b65b8b16df311ccffb4d2d9ff2cf49fe0822c", func := "loop.example/pub-timelayouts/laws.FnExactChunks", spec := "fnExactChunks", named := ["loop.example/pub-timelayouts/pub/gotime.std0x"], apart := false, laid := [("loop.example/pub-timelayouts/pub/gotime.std0x", laid_loop_example_pub_timelayouts_pub_gotime_std0x)] }
def FnExactChunksSaid : Prop := fnExactChunksRow.holds Tryd.pinned (OpenSpec.ofChange fnExactChunksSpec)

/-- ITS FALSE NEIGHBOUR: 'it returns false'. Refute it at one input. -/
def fnExactChunksWrong : ChangeSpec := { name := "fnExactChunks", vars := ["loop.example/pub-timelayouts/pub/gotime.std0x"], fn := fun _ => fun
  | [d, g1] => { results := [.lit (.bool false)], args := [d], vars := [g1] }
  | _ => none }
def FnExactChunksWrongFalsely : Prop := fnExactChunksRow.holds Tryd.pinned (OpenSpec.ofChange fnExactChunksWrong)

/- THE SECOND FORM. 'bulk': how many values and letters a reading holds, each counted each time it is reached (what is shared counts as often as it is met; a slice's spare places count too). A statement '..UptoSaid' is the law's where the arguments, and the package variables that the reading takes, are together of bulk at most 1048576: NARROWER than '..Said'. Prove '..Said' where nothing that the law and all that it calls make is longer than what came in: it says more and counts as full. Else prove '..UptoSaid'. A law counts once. -/
mutual
def uptoBulk {H : Type} : DataW H → Nat
  | .lit (.string bytes) => bytes.length + 1
  | .lit _ => 1
  | .nil => 1
  | .ptr d => uptoBulk d + 1
  | .slice elems spare => uptoBulkAll elems + uptoBulkAll spare + 1
  | .agg parts => uptoBulkAll parts + 1
  | .iface _ d => uptoBulk d + 1
  | .map entries => uptoBulkEntries entries + 1
  | .held _ => 1
def uptoBulkAll {H : Type} : List (DataW H) → Nat
  | [] => 0
  | d :: r => uptoBulk d + uptoBulkAll r
def uptoBulkEntries {H : Type} : List (Lit × DataW H) → Nat
  | [] => 0
  | x :: r => uptoBulkEntry x + uptoBulkEntries r
def uptoBulkEntry {H : Type} : Lit × DataW H → Nat
  | (.string bytes, d) => bytes.length + uptoBulk d + 1
  | (_, d) => uptoBulk d + 1
 end
def uptoSmall : (H : Type) → List (DataW H) → Bool := fun _ ds => decide (uptoBulkAll ds ≤ 1048576)
def OpenSpec.upto (s : _root_.Go.ChangeSpec) : _root_.Go.OpenSpec := { _root_.Go.OpenSpec.ofChange s with cond := some uptoSmall }

/-- 'laws.FnExactAtoi', WHERE WHAT IT READS IS OF BULK AT MOST 1048576: true; the input reads as it did. -/
def fnExactAtoiUptoRow : OpenClaim := { program := "ythgncomlplnjoaadoor", sum := "0c9fbd594ffb64def180cdc1680b65b8b16df311ccffb4d2d9ff2cf49fe0822c", func := "loop.example/pub-timelayouts/laws.FnExactAtoi", spec := "fnExactAtoi", named := ["loop.example/pub-timelayouts/pub/gotime.errAtoi", "loop.example/pub-timelayouts/pub/gotime.errLeadingInt"], ifaces := true, apart := false, laid := [("loop.example/pub-timelayouts/pub/gotime.errAtoi", laid_loop_example_pub_timelayouts_pub_gotime_errAtoi), ("loop.example/pub-timelayouts/pub/gotime.errLeadingInt", laid_loop_example_pub_timelayouts_pub_gotime_errLeadingInt)], narrowed := true }
def FnExactAtoiUptoSaid : Prop := fnExactAtoiUptoRow.holds Tryd.pinned (OpenSpec.upto fnExactAtoiSpec)

/-- 'laws.FnExactGMT', WHERE WHAT IT READS IS OF BULK AT MOST 1048576: true; the input reads as it did. -/
def fnExactGMTUptoRow : OpenClaim := { program := "ythgncomlplnjoaadoor", sum := "0c9fbd594ffb64def180cdc1680b65b8b16df311ccffb4d2d9ff2cf49fe0822c", func := "loop.example/pub-timelayouts/laws.FnExactGMT", spec := "fnExactGMT", named := ["loop.example/pub-timelayouts/pub/gotime.errLeadingInt"], ifaces := true, apart := false, laid := [("loop.example/pub-timelayouts/pub/gotime.errLeadingInt", laid_loop_example_pub_timelayouts_pub_gotime_errLeadingInt)], narrowed := true }
def FnExactGMTUptoSaid : Prop := fnExactGMTUptoRow.holds Tryd.pinned (OpenSpec.upto fnExactGMTSpec)

/-- 'laws.FnNanosecondsMark', WHERE WHAT IT READS IS OF BULK AT MOST 1048576: true; the input reads as it did. -/
def fnNanosecondsMarkUptoRow : OpenClaim := { program := "ythgncomlplnjoaadoor", sum := "0c9fbd594ffb64def180cdc1680b65b8b16df311ccffb4d2d9ff2cf49fe0822c", func := "loop.example/pub-timelayouts/laws.FnNanosecondsMark", spec := "fnNanosecondsMark", named := ["loop.example/pub-timelayouts/pub/gotime.errBad", "loop.example/pub-timelayouts/pub/gotime.errAtoi", "loop.example/pub-timelayouts/pub/gotime.errLeadingInt"], ifaces := true, apart := false, laid := [("loop.example/pub-timelayouts/pub/gotime.errAtoi", laid_loop_example_pub_timelayouts_pub_gotime_errAtoi), ("loop.example/pub-timelayouts/pub/gotime.errBad", laid_loop_example_pub_timelayouts_pub_gotime_errBad), ("loop.example/pub-timelayouts/pub/gotime.errLeadingInt", laid_loop_example_pub_timelayouts_pub_gotime_errLeadingInt)], narrowed := true }
def FnNanosecondsMarkUptoSaid : Prop := fnNanosecondsMarkUptoRow.holds Tryd.pinned (OpenSpec.upto fnNanosecondsMarkSpec)

/-- 'laws.FnTimeZoneFew', WHERE WHAT IT READS IS OF BULK AT MOST 1048576: true; the input reads as it did. -/
def fnTimeZoneFewUptoRow : OpenClaim := { program := "ythgncomlplnjoaadoor", sum := "0c9fbd594ffb64def180cdc1680b65b8b16df311ccffb4d2d9ff2cf49fe0822c", func := "loop.example/pub-timelayouts/laws.FnTimeZoneFew", spec := "fnTimeZoneFew", named := ["loop.example/pub-timelayouts/pub/gotime.errLeadingInt"], ifaces := true, apart := false, laid := [("loop.example/pub-timelayouts/pub/gotime.errLeadingInt", laid_loop_example_pub_timelayouts_pub_gotime_errLeadingInt)], narrowed := true }
def FnTimeZoneFewUptoSaid : Prop := fnTimeZoneFewUptoRow.holds Tryd.pinned (OpenSpec.upto fnTimeZoneFewSpec)

/-- 'laws.FnChunkElement', WHERE WHAT IT READS IS OF BULK AT MOST 1048576: true; the input reads as it did. -/
def fnChunkElementUptoRow : OpenClaim := { program := "ythgncomlplnjoaadoor", sum := "0c9fbd594ffb64def180cdc1680b65b8b16df311ccffb4d2d9ff2cf49fe0822c", func := "loop.example/pub-timelayouts/laws.FnChunkElement", spec := "fnChunkElement", named := ["loop.example/pub-timelayouts/pub/gotime.std0x"], apart := false, laid := [("loop.example/pub-timelayouts/pub/gotime.std0x", laid_loop_example_pub_timelayouts_pub_gotime_std0x)], narrowed := true }
def FnChunkElementUptoSaid : Prop := fnChunkElementUptoRow.holds Tryd.pinned (OpenSpec.upto fnChunkElementSpec)

/-- 'laws.FnExactChunks', WHERE WHAT IT READS IS OF BULK AT MOST 1048576: true; the input reads as it did. -/
def fnExactChunksUptoRow : OpenClaim := { program := "ythgncomlplnjoaadoor", sum := "0c9fbd594ffb64def180cdc1680b65b8b16df311ccffb4d2d9ff2cf49fe0822c", func := "loop.example/pub-timelayouts/laws.FnExactChunks", spec := "fnExactChunks", named := ["loop.example/pub-timelayouts/pub/gotime.std0x"], apart := false, laid := [("loop.example/pub-timelayouts/pub/gotime.std0x", laid_loop_example_pub_timelayouts_pub_gotime_std0x)], narrowed := true }
def FnExactChunksUptoSaid : Prop := fnExactChunksUptoRow.holds Tryd.pinned (OpenSpec.upto fnExactChunksSpec)

end Rows
end Go.Proofs.YthgncomlplnjoaaDoor
