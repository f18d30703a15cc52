import Derived.Test.Qxb6003939aDoorCards
import Derived.Test.Qxb6003939aDoorTie
import Derived.Test.Qxb6003939aDoorLtLaw
import Derived.ProofKit
import Derived.OpenShut
import Derived.ChangeSame
import Derived.ChangeVars
import Derived.JoinedOf
import Derived.RowKit
import Derived.RowKitTokens
import Derived.LaidLaws
import Derived.LaidHandle
import Derived.Stop.Joined
import Derived.Lib.LaidU8
import Derived.SevenTiedAt
set_option linter.unusedVariables false
namespace Go.Proofs.Qxb6003939aDoor.Lt
open Go.ChangeShapes Go.WideShapes Go.ChangeAt Go.RowKit

theorem own : ownKnob Tryd.prog.godebug = none := by kernel_rfl
theorem gPow : Tryd.prog.globalNamed powName = some 0 := by kernel_rfl
theorem gPowType : (Tryd.prog.globals[0]?).map (·.type) = some 44 := by kernel_rfl
theorem cells25 : Tryd.prog.cellsOf 25 = 1 := by kernel_rfl
theorem cells44 : Tryd.prog.cellsOf 44 = 20 := by kernel_rfl

/-- The three listed variables. -/
def laid3 : List (String × DataW Unit) := Rows.fnLabelTextDecimalBothReadingsRow.laid

theorem pow_data : (Rows.laid_internal_strconv_uint64pow10 : DataW Unit) = Lib.tabData .u64 Lib.pow10Tab := by kernel_rfl

/-- WHAT THE CONDITION GIVES THE WALK. -/
theorem tab_of_laid {W : World} (h : laidMetH Tryd.prog laid3 W) : PowTab W := by
  have h' : laidMet Tryd.prog laid3 W := h
  have hm : (powName, (Rows.laid_internal_strconv_uint64pow10 : DataW Unit)) ∈ laid3 := .tail _ (.tail _ (.head _))
  rw [pow_data] at hm
  obtain ⟨g, t, cs, fuel, p, hg, hty, hvar, hd⟩ := Lib.laidMet.reads h' hm
  obtain rfl := Option.some.inj (gPow.symm.trans hg)
  obtain rfl := Option.some.inj (gPowType.symm.trans hty)
  have hcs := Lib.cells_of_tab Tryd.underlying44 Tryd.underlying25 cells25 cells44 hd
  unfold PowTab Lib.TabIs
  rw [hvar, ← hcs]

def db32 : List Int := [0, 1, 28, 2, 29, 14, 24, 3, 30, 22, 20, 15, 25, 17, 4, 8, 31, 27, 13, 23, 21, 19, 16, 7, 26, 12, 18, 6, 11, 5, 10, 9]
def db64 : List Int := [0, 1, 56, 2, 57, 49, 28, 3, 61, 58, 42, 50, 38, 29, 17, 4, 62, 47, 59, 36, 45, 43, 51, 22, 53, 39, 33, 30, 24, 18, 12, 5, 63, 55, 48, 27, 60, 41, 37, 16, 46, 35, 44, 21, 52, 32, 23, 11, 54, 26, 40, 15, 34, 20, 31, 10, 25, 14, 19, 9, 13, 8, 7, 6]

/-- The three variables' cells laid. -/
def laidIn (w0 : World) : World :=
  let put (h : Array Obj) (g : Nat) (cs : Array Value) : Array Obj := h.modify g fun
    | .cells _ t frozen => .cells cs t frozen
    | o => o
  let h1 := put w0.heap 0 (Lib.pow10Tab.map fun z => Value.int .u64 z).toArray
  let h2 := put h1 1 (db32.map fun z => Value.int .u8 z).toArray
  let h3 := put h2 2 (db64.map fun z => Value.int .u8 z).toArray
  { w0 with heap := h3 }

/-- A world that meets the condition: the settled one, the three variables' cells laid. -/
theorem laidWorld_met (os : Os) (args : Array Value) : laidMetH Tryd.prog laid3 ((laidIn (World.holding Tryd.prog os ⟨#[], #[], []⟩)).forCall (fun _ _ => 0) ⟨#[], args, []⟩).memory := by
  have h : laidMet Tryd.prog laid3 ((laidIn (World.holding Tryd.prog os ⟨#[], #[], []⟩)).forCall (fun _ _ => 0) ⟨#[], args, []⟩).memory := laidMet_of_run' 8 (by kernel_rfl) (by kernel_rfl)
  exact h
end Go.Proofs.Qxb6003939aDoor.Lt
