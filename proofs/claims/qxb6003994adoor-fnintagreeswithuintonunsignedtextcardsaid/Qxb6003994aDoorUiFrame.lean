import Derived.Test.Qxb6003994aDoorCards
import Derived.Test.Qxb6003994aDoorTie
import Derived.Test.Qxb6003994aDoorUiDefs
import Derived.ProofKit
import Derived.OpenShut
import Derived.ChangeSame
import Derived.ChangeVars
import Derived.JoinedOf
import Derived.RowKit
import Derived.RowKitTokens
import Derived.LaidLaws
import Derived.LaidHandle
import Derived.Stop.Joined
import Derived.Stop.LaidErr
import Derived.SevenTiedAt
set_option linter.unusedVariables false
namespace Go.Proofs.Qxb6003994aDoor.Ui
open Go.ChangeShapes Go.WideShapes Go.ChangeAt Go.RowKit

theorem own : ownKnob Tryd.prog.godebug = none := by kernel_rfl

/-- The five listed variables. -/
def laid5 : List (String × DataW Unit) := Rows.fnUintIsExactlyPlainDecimalBelowPow2Row.laid

/-- The two errors' names, and the name of their type, taken from the row. -/
def nmRange : String := ((laid5.drop 3).map (·.1)).headD ""
def nmWords : String := ((laid5.drop 4).map (·.1)).headD ""
def typeNm : DataW Unit → String
  | .iface n _ => n
  | _ => ""
def nmErr : String := typeNm Rows.laid_strconv_ErrRange

theorem gWords : Tryd.prog.globalNamed nmWords = some 0 := by kernel_rfl
theorem gRange : Tryd.prog.globalNamed nmRange = some 1 := by kernel_rfl
theorem gWordsType : (Tryd.prog.globals[0]?).map (·.type) = some 31 := by kernel_rfl
theorem gRangeType : (Tryd.prog.globals[1]?).map (·.type) = some 31 := by kernel_rfl
theorem cells56 : Tryd.prog.cellsOf 56 = 1 := by kernel_rfl
theorem cells9 : Tryd.prog.cellsOf 9 = 1 := by kernel_rfl

/-- THE ONE ROW OF THAT NAME. -/
theorem row54 (u : TypeId) (h : Tryd.prog.typeName? 3 u = some nmErr) : u = 54 :=
  typeName_ptr_named (nm := "errors.errorString") (by kernel_rfl) (by kernel_rfl) (by decide) u (h.trans (congrArg some (by kernel_rfl)))

def bytesR : List UInt8 := [118, 97, 108, 117, 101, 32, 111, 117, 116, 32, 111, 102, 32, 114, 97, 110, 103, 101]
def bytesW : List UInt8 := [105, 110, 118, 97, 108, 105, 100, 32, 115, 121, 110, 116, 97, 120]
def sentinel (t : List UInt8) : DataW Unit := .iface nmErr (.ptr (.agg [.lit (.string t)]))

theorem laid_split : laid5 = (laid5.take 3) ++ [(nmRange, sentinel bytesR), (nmWords, sentinel bytesW)] := by kernel_rfl

theorem laidMet.drop {P : Program} {w : World} : ∀ {n : Nat} {l : List (String × DataW Unit)}, laidMet P l w → laidMet P (l.drop n) w
  | 0, l, h => by simpa using h
  | n + 1, [], h => by simpa using h
  | n + 1, x :: r, h => by simpa using laidMet.drop (n := n) (Go.laidMet.tail h)

theorem errAt_of_var {W : World} {n : String} {g : Nat} {a : Addr} (hg : Tryd.prog.globalNamed n = some g) (h : W.var? Tryd.prog n = some #[.iface 54 (.pointer (some a))]) : ErrAt W g :=
  ⟨_, by have h0 := World.var?_cell hg h 0; simpa using h0, Or.inr ⟨_, _, rfl⟩⟩

/-- WHAT THE CONDITION GIVES THE WALK. -/
theorem err_of_laid {W : World} (h : laidMetH Tryd.prog laid5 W) : ErrOk W := by
  have h' : laidMet Tryd.prog laid5 W := h
  have h3 := laidMet.drop (n := 3) h'
  have h3' : laidMet Tryd.prog ((nmRange, sentinel bytesR) :: [(nmWords, sentinel bytesW)]) W := h3
  have h4 : laidMet Tryd.prog [(nmWords, sentinel bytesW)] W := Go.laidMet.tail h3'
  obtain ⟨a0, s0, hv0, -, -, -⟩ := laid_sentinel h4 gWords gWordsType Tryd.underlying31 row54 Tryd.underlying54 Tryd.underlying56 rfl rfl Tryd.underlying9 cells56 cells9
  obtain ⟨a1, s1, hv1, -, -, -⟩ := laid_sentinel h3' gRange gRangeType Tryd.underlying31 row54 Tryd.underlying54 Tryd.underlying56 rfl rfl Tryd.underlying9 cells56 cells9
  exact ⟨errAt_of_var gWords hv0, errAt_of_var gRange hv1⟩

def db32 : List Int := [0, 1, 28, 2, 29, 14, 24, 3, 30, 22, 20, 15, 25, 17, 4, 8, 31, 27, 13, 23, 21, 19, 16, 7, 26, 12, 18, 6, 11, 5, 10, 9]
def db64 : List Int := [0, 1, 56, 2, 57, 49, 28, 3, 61, 58, 42, 50, 38, 29, 17, 4, 62, 47, 59, 36, 45, 43, 51, 22, 53, 39, 33, 30, 24, 18, 12, 5, 63, 55, 48, 27, 60, 41, 37, 16, 46, 35, 44, 21, 52, 32, 23, 11, 54, 26, 40, 15, 34, 20, 31, 10, 25, 14, 19, 9, 13, 8, 7, 6]
def p10 : List Int := (List.range 20).map fun k => ((10 ^ k : Nat) : Int)

/-- The five variables' cells laid; the errors' own blocks are the last two of the world. -/
def laidIn (w0 : World) : World :=
  let put (h : Array Obj) (g : Nat) (cs : Array Value) : Array Obj := h.modify g fun
    | .cells _ t frozen => .cells cs t frozen
    | o => o
  let n := w0.heap.size
  let h0 := put w0.heap 0 #[.iface 54 (.pointer (some ⟨n - 2, 0, none⟩))]
  let h1 := put h0 1 #[.iface 54 (.pointer (some ⟨n - 1, 0, none⟩))]
  let h2 := put h1 2 (p10.map fun z => Value.int .u64 z).toArray
  let h3 := put h2 3 (db32.map fun z => Value.int .u8 z).toArray
  let h4 := put h3 4 (db64.map fun z => Value.int .u8 z).toArray
  { w0 with heap := h4 }

/-- The two errors' own blocks. -/
def errBlocks : Array Obj := #[.cells #[.string ⟨bytesW.toArray⟩] 56, .cells #[.string ⟨bytesR.toArray⟩] 56]

/-- A world that meets the condition: the settled one, the five variables' cells laid. -/
theorem laidWorld_met (os : Os) (args : Array Value) : laidMetH Tryd.prog laid5 ((laidIn (World.holding Tryd.prog os ⟨errBlocks, #[], []⟩)).forCall (fun _ _ => 0) ⟨#[], args, []⟩).memory := by
  have h : laidMet Tryd.prog laid5 ((laidIn (World.holding Tryd.prog os ⟨errBlocks, #[], []⟩)).forCall (fun _ _ => 0) ⟨#[], args, []⟩).memory := laidMet_of_run' 8 (by kernel_rfl) (by kernel_rfl)
  exact h
end Go.Proofs.Qxb6003994aDoor.Ui
