/-
  No cell of these rows narrows 'for every input' (looked for: loops, veiled, ifaces, maps, wideKeys, modest, calm, conditions, laid).
  DERIVED. THE GIVEN ROWS OF THIS SEAT. 2 by the template 'for every input the law returns true; each argument reads behind the call as it read before'; 0 by the template 'total and deterministic' (their statements: Qxb6003813aTotals.lean).
  GIVEN WITH THE SEED: the statements are not yours to turn. If you find one false, say at which input.
  Laid BY PROGRAM, IN A SANDBOX (cutbox-rows.mjs): the forced cells as the released guide's own fill.sh prints them over the translation cd5a76f611dfa7a9… (all of the seat's roots in one cut). By AI agents, Wed Nov 11 2026. No macro, syntax, notation, axiom, sorry.
-/
import Derived.Test.Qxb6003813aChecked
import GoSem.Claim
import GoSem.ClaimJoined
import GoSem.ClaimMapViews
import Derived.JoinedTies
import Derived.KernelRfl
namespace Go.Proofs.Qxb6003813a
/- THE CELL 'sum', in the pinned program and in every row, IS THE sha256 OF THE DUMP (.gsa) THAT Qxb6003813aProg.lean LOADS. Nothing in Lean hashes anything: it is a label: what it is worth is what the hold of that sum in a sandbox is worth. -/
noncomputable def Try.pinned : Pinned := { name := "qxb6003813a", sum := "cd5a76f611dfa7a988ebda36f0e9191f1ef206485ad969af43c7e58645991531", checked := Try.checked }
namespace Rows
def none {H : Type} : Left H := { results := [], args := [] }

/-- 'zzlaws_memfs_g2.FnCleanModesAgreeOnValidNames': WHATEVER THE INPUT: true; the input reads as it did. -/
def fnCleanModesAgreeOnValidNamesSpec : ChangeSpec := { name := "fnCleanModesAgreeOnValidNames", fn := fun _ => fun
  | [d] => { results := [.lit (.bool true)], args := [d] }
  | _ => none }
def fnCleanModesAgreeOnValidNamesRow : OpenClaim := { program := "qxb6003813a", sum := "cd5a76f611dfa7a988ebda36f0e9191f1ef206485ad969af43c7e58645991531", func := "example.com/underglass/underglass/zzlaws_memfs_g2.FnCleanModesAgreeOnValidNames", spec := "fnCleanModesAgreeOnValidNames", apart := false }
def FnCleanModesAgreeOnValidNamesSaid : Prop := fnCleanModesAgreeOnValidNamesRow.holds Try.pinned (OpenSpec.ofChange fnCleanModesAgreeOnValidNamesSpec)

/-- ITS FALSE NEIGHBOUR: 'it returns false'. Refute it at one input. -/
def fnCleanModesAgreeOnValidNamesWrong : ChangeSpec := { name := "fnCleanModesAgreeOnValidNames", fn := fun _ => fun
  | [d] => { results := [.lit (.bool false)], args := [d] }
  | _ => none }
def FnCleanModesAgreeOnValidNamesWrongFalsely : Prop := fnCleanModesAgreeOnValidNamesRow.holds Try.pinned (OpenSpec.ofChange fnCleanModesAgreeOnValidNamesWrong)

/-- 'zzlaws_memfs_g2.FnLookupAgreesWithPlace': WHATEVER THE INPUT: true; the input reads as it did. -/
def fnLookupAgreesWithPlaceSpec : ChangeSpec := { name := "fnLookupAgreesWithPlace", fn := fun _ => fun
  | [d1, d2, d3, d4] => { results := [.lit (.bool true)], args := [d1, d2, d3, d4] }
  | _ => none }
def fnLookupAgreesWithPlaceRow : OpenClaim := { program := "qxb6003813a", sum := "cd5a76f611dfa7a988ebda36f0e9191f1ef206485ad969af43c7e58645991531", func := "example.com/underglass/underglass/zzlaws_memfs_g2.FnLookupAgreesWithPlace", spec := "fnLookupAgreesWithPlace", inPlace := ["internal/bytealg.IndexByteString"], apart := false }
def FnLookupAgreesWithPlaceSaid : Prop := fnLookupAgreesWithPlaceRow.holds Try.pinned (OpenSpec.ofChange fnLookupAgreesWithPlaceSpec)

/-- ITS FALSE NEIGHBOUR: 'it returns false'. Refute it at one input. -/
def fnLookupAgreesWithPlaceWrong : ChangeSpec := { name := "fnLookupAgreesWithPlace", fn := fun _ => fun
  | [d1, d2, d3, d4] => { results := [.lit (.bool false)], args := [d1, d2, d3, d4] }
  | _ => none }
def FnLookupAgreesWithPlaceWrongFalsely : Prop := fnLookupAgreesWithPlaceRow.holds Try.pinned (OpenSpec.ofChange fnLookupAgreesWithPlaceWrong)

end Rows
end Go.Proofs.Qxb6003813a
