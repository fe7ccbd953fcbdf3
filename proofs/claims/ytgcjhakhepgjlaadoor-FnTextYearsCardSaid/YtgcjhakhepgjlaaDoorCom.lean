/-
  THE FRAME OF THE CARDS: closed facts on the program, and what the rows' lists of variables give the walks.
-/
import Derived.Test.YtgcjhakhepgjlaaDoorStr
import Derived.Test.YtgcjhakhepgjlaaDoorCards
import Derived.Test.YtgcjhakhepgjlaaDoorTie
import Derived.ProofKit
import Derived.OpenShut
import Derived.OpenVars
import Derived.ShutString
import Derived.ChangeOld
import Derived.LaidMore
import Derived.Stop.LaidErr
import Derived.Stop.Joined
import Derived.SevenTiedAt
import Derived.Lib.LaidTab
namespace Go.Proofs.YtgcjhakhepgjlaaDoor
open Go.ChangeShapes Go.WideShapes Go.ChangeAt Go.RowKit

theorem own : ownKnob Tryd.prog.godebug = none := by kernel_rfl
theorem laidOut : laidOutB Tryd.prog = true := by kernel_rfl

theorem trodVars_len {H : Type} {enc : TypeId × Value → H} {P : Program} {w : World} {sp : Nat → Bool} : ∀ {ns : List String} {gs : List (DataW H)} {ps : List MemPlace}, DataW.TrodVars enc P w sp ns gs ps → gs.length = ns.length
  | [], [], _, _ => rfl
  | [], _ :: _, _, h => h.elim
  | _ :: _, [], _, h => h.elim
  | _ :: ns, _ :: gs, _, h => by
    obtain ⟨_, _, _, _, _, q, _, _, _, _, hs, _⟩ := h
    simp [trodVars_len hs]
theorem list_1 {α : Type} {l : List α} (h : l.length = 1) : ∃ a, l = [a] := List.length_eq_one_iff.1 h
theorem list_2 {α : Type} {l : List α} (h : l.length = 2) : ∃ a b, l = [a, b] := by
  match l, h with
  | [a, b], _ => exact ⟨a, b, rfl⟩
theorem list_3 {α : Type} {l : List α} (h : l.length = 3) : ∃ a b c, l = [a, b, c] := by
  match l, h with
  | [a, b, c], _ => exact ⟨a, b, c, rfl⟩
theorem list_4 {α : Type} {l : List α} (h : l.length = 4) : ∃ a b c d, l = [a, b, c, d] := by
  match l, h with
  | [a, b, c, d], _ => exact ⟨a, b, c, d, rfl⟩
theorem byte_of {n : Int} (h : (Lit.int .u8 n).wf = true) : ∃ c : UInt8, n = (c.toNat : Int) := by
  have hb : 0 ≤ n ∧ n ≤ 255 := bounds_u8 h
  refine ⟨UInt8.ofNat n.toNat, ?_⟩
  rw [UInt8.toNat_ofNat']
  omega
theorem str_bound {l : List UInt8} (h : (ByteArray.mk ⟨l⟩).size ≤ maxLen) : l.length ≤ 9223372036854775807 := by
  simpa [maxLen, ByteArray.size] using h

theorem row_es (u : TypeId) (h : Tryd.prog.typeName? 3 u = some "*errors.errorString") : u = 100 :=
  typeName_ptr_named (nm := "errors.errorString") (by rw [show "*" ++ "errors.errorString" = "*errors.errorString" by decide]; kernel_rfl) (by kernel_rfl) (by decide) u (by rw [show "*" ++ "errors.errorString" = "*errors.errorString" by decide]; exact h)
theorem cells_es : Tryd.prog.cellsOf 102 = 1 := by kernel_rfl
theorem cells_str : Tryd.prog.cellsOf 9 = 1 := by kernel_rfl
theorem g_atoi : Tryd.prog.globalNamed "loop.example/pub-timelayouts/pub/gotime.errAtoi" = some 1 := by kernel_rfl
theorem gt_atoi : (Tryd.prog.globals[1]?).map (·.type) = some 49 := by kernel_rfl
theorem hatoi_of {r : List (String × DataW Unit)} {text : List UInt8} {W : World} (h : laidMet Tryd.prog (("loop.example/pub-timelayouts/pub/gotime.errAtoi", .iface "*errors.errorString" (.ptr (.agg [.lit (.string text)]))) :: r) W) : HAtoi W := by
  obtain ⟨a, s, hv, _⟩ := laid_sentinel h g_atoi gt_atoi Tryd.underlying49 row_es Tryd.underlying100 Tryd.underlying102 rfl rfl Tryd.underlying9 cells_es cells_str
  exact ⟨a, by simpa using World.var?_cell g_atoi hv 0⟩
theorem g_bad : Tryd.prog.globalNamed "loop.example/pub-timelayouts/pub/gotime.errBad" = some 0 := by kernel_rfl
theorem gt_bad : (Tryd.prog.globals[0]?).map (·.type) = some 49 := by kernel_rfl
theorem hbad_of {r : List (String × DataW Unit)} {text : List UInt8} {W : World} (h : laidMet Tryd.prog (("loop.example/pub-timelayouts/pub/gotime.errBad", .iface "*errors.errorString" (.ptr (.agg [.lit (.string text)]))) :: r) W) : HBad W := by
  obtain ⟨a, s, hv, _⟩ := laid_sentinel h g_bad gt_bad Tryd.underlying49 row_es Tryd.underlying100 Tryd.underlying102 rfl rfl Tryd.underlying9 cells_es cells_str
  exact ⟨a, by simpa using World.var?_cell g_bad hv 0⟩
theorem g_lead : Tryd.prog.globalNamed "loop.example/pub-timelayouts/pub/gotime.errLeadingInt" = some 2 := by kernel_rfl
theorem gt_lead : (Tryd.prog.globals[2]?).map (·.type) = some 49 := by kernel_rfl
theorem hlead_of {r : List (String × DataW Unit)} {text : List UInt8} {W : World} (h : laidMet Tryd.prog (("loop.example/pub-timelayouts/pub/gotime.errLeadingInt", .iface "*errors.errorString" (.ptr (.agg [.lit (.string text)]))) :: r) W) : HLead W := by
  obtain ⟨a, s, hv, _⟩ := laid_sentinel h g_lead gt_lead Tryd.underlying49 row_es Tryd.underlying100 Tryd.underlying102 rfl rfl Tryd.underlying9 cells_es cells_str
  exact ⟨a, by simpa using World.var?_cell g_lead hv 0⟩
theorem g_std : Tryd.prog.globalNamed "loop.example/pub-timelayouts/pub/gotime.std0x" = some 3 := by kernel_rfl
theorem gt_std : (Tryd.prog.globals[3]?).map (·.type) = some 144 := by kernel_rfl
theorem cells_6 : Tryd.prog.cellsOf 144 = 6 := by kernel_rfl
theorem cells_int : Tryd.prog.cellsOf 3 = 1 := by kernel_rfl
theorem hstd_of {r : List (String × DataW Unit)} {W : World} (h : laidMet Tryd.prog (("loop.example/pub-timelayouts/pub/gotime.std0x", .agg [.lit (.int .i64 260), .lit (.int .i64 265), .lit (.int .i64 1038), .lit (.int .i64 1040), .lit (.int .i64 1042), .lit (.int .i64 276)]) :: r) W) : HStd W := by
  have hT : Lib.TabIs Tryd.prog W "loop.example/pub-timelayouts/pub/gotime.std0x" .i64 [260, 265, 1038, 1040, 1042, 276] := Lib.tabIs_of_head (rest := r) g_std gt_std Tryd.underlying144 Tryd.underlying3 cells_int cells_6 h
  exact ⟨hT.cell g_std 0 (by decide), hT.cell g_std 1 (by decide), hT.cell g_std 2 (by decide), hT.cell g_std 3 (by decide), hT.cell g_std 4 (by decide), hT.cell g_std 5 (by decide)⟩
end Go.Proofs.YtgcjhakhepgjlaaDoor
