import Derived.Test.Qxb6003994aDoorUiParse
import Derived.Lib.SmallJoins
import Derived.Deep.LoopGhost
set_option linter.unusedVariables false
namespace Go.Proofs.Qxb6003994aDoor.Ui
open Go.RowKit

theorem hide {p : Prop} (h : p) : Hid p := h
theorem unhide {p : Prop} (h : Hid p) : p := h

set_option maxRecDepth 100000 in
theorem parse21_empty (b : Int) (w : World) : Calls Tryd.prog 21 #[.string ⟨#[]⟩, .int .i64 10, .int .i64 b] w fun e w' => e = .returned (.tuple #[.int .u64 0, .iface 41 (.int .i64 2)]) ∧ w = w' := by
  go_enter Tryd.func21, Tryd.ntmps21
  go_wp2
  go_ret2
  exact ⟨rfl, rfl⟩

/-- The two error variables hold errors, or nil. -/
def ErrAt (w : World) (g : Nat) : Prop := ∃ ev, w.cell? ⟨g, 0, none⟩ = some ev ∧ (ev = .nilIface ∨ ∃ te pe, ev = .iface te pe)
def ErrOk (w : World) : Prop := ErrAt w 0 ∧ ErrAt w 1
theorem ErrAt.below {w w' : World} {g : Nat} (h : ErrAt w g) (hB : Below w.heap.size w w') : ErrAt w' g := by
  obtain ⟨ev, h1, h2⟩ := h
  exact ⟨ev, by rw [hB.cell (p := ⟨g, 0, none⟩) (World.block_lt_of_cell? _ _ h1)]; exact h1, h2⟩
theorem ErrOk.below {w w' : World} (h : ErrOk w) (hB : Below w.heap.size w w') : ErrOk w' := ⟨h.1.below hB, h.2.below hB⟩

def okOf : Lib.NumEnd Nat → Option Nat
  | .ok n => some n
  | _ => none

/-- What strconv.ParseUint comes to. -/
def PuEnd (o : Option Nat) (e : Ending) : Prop := match o with
  | some n => e = .returned (.tuple #[.int .u64 n, .nilIface])
  | none => ∃ (v : Int) (N : Nat), e = .returned (.tuple #[.int .u64 v, .iface 44 (.pointer (some ⟨N, 0, none⟩))])

def uintO (M : Nat) (l : List UInt8) : Option Nat := if l = [] then none else okOf (Lib.parseUintM M 0 l)

theorem below_bytes (w : World) (t : ByteArray) : Below w.heap.size w (Lib.bytesWorld w 5 t) := Go.Joins.below_bytesWorld _ w 5 t (Nat.le_refl _)
end Go.Proofs.Qxb6003994aDoor.Ui
