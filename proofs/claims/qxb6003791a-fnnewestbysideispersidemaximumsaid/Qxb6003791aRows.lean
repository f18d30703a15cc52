/-
  No cell of these rows narrows 'for every input' (looked for: loops, veiled, ifaces, maps, wideKeys, modest, calm, conditions, laid).
  DERIVED. THE GIVEN ROWS OF THIS SEAT. 4 by the template 'for every input the law returns true; each argument reads behind the call as it read before'; 0 by the template 'total and deterministic' (their statements: Qxb6003791aTotals.lean).
  GIVEN WITH THE SEED: the statements are not yours to turn. If you find one false, say at which input.
  Laid BY PROGRAM, IN A SANDBOX (cutbox-rows.mjs): the forced cells as the released guide's own fill.sh prints them over the translation 25cd17acf6129852… (all of the seat's roots in one cut). By AI agents, Wed Nov 11 2026. No macro, syntax, notation, axiom, sorry.
-/
import Derived.Test.Qxb6003791aChecked
import GoSem.Claim
import GoSem.ClaimJoined
import GoSem.ClaimMapViews
import Derived.JoinedTies
import Derived.KernelRfl
namespace Go.Proofs.Qxb6003791a
/- THE CELL 'sum', in the pinned program and in every row, IS THE sha256 OF THE DUMP (.gsa) THAT Qxb6003791aProg.lean LOADS. Nothing in Lean hashes anything: it is a label: what it is worth is what the hold of that sum in a sandbox is worth. -/
noncomputable def Try.pinned : Pinned := { name := "qxb6003791a", sum := "25cd17acf61298526b9e9939ebc045fa15fccc79ee8c06efa6cde698b959cf91", checked := Try.checked }
namespace Rows
def none {H : Type} : Left H := { results := [], args := [] }

/-- 'zzlaws_pkg_cluster_g1.FnBestViewPicksFirstLargestThenNewest': WHATEVER THE INPUT: true; the input reads as it did. -/
def fnBestViewPicksFirstLargestThenNewestSpec : ChangeSpec := { name := "fnBestViewPicksFirstLargestThenNewest", fn := fun _ => fun
  | [d1, d2, d3, d4] => { results := [.lit (.bool true)], args := [d1, d2, d3, d4] }
  | _ => none }
def fnBestViewPicksFirstLargestThenNewestRow : OpenClaim := { program := "qxb6003791a", sum := "25cd17acf61298526b9e9939ebc045fa15fccc79ee8c06efa6cde698b959cf91", func := "example.com/gridloom/gridloom/zzlaws_pkg_cluster_g1.FnBestViewPicksFirstLargestThenNewest", spec := "fnBestViewPicksFirstLargestThenNewest", apart := false }
def FnBestViewPicksFirstLargestThenNewestSaid : Prop := fnBestViewPicksFirstLargestThenNewestRow.holds Try.pinned (OpenSpec.ofChange fnBestViewPicksFirstLargestThenNewestSpec)

/-- ITS FALSE NEIGHBOUR: 'it returns false'. Refute it at one input. -/
def fnBestViewPicksFirstLargestThenNewestWrong : ChangeSpec := { name := "fnBestViewPicksFirstLargestThenNewest", fn := fun _ => fun
  | [d1, d2, d3, d4] => { results := [.lit (.bool false)], args := [d1, d2, d3, d4] }
  | _ => none }
def FnBestViewPicksFirstLargestThenNewestWrongFalsely : Prop := fnBestViewPicksFirstLargestThenNewestRow.holds Try.pinned (OpenSpec.ofChange fnBestViewPicksFirstLargestThenNewestWrong)

/-- 'zzlaws_pkg_grid_g1.FnValidKeyConcatenation': WHATEVER THE INPUT: true; the input reads as it did. -/
def fnValidKeyConcatenationSpec : ChangeSpec := { name := "fnValidKeyConcatenation", fn := fun _ => fun
  | [d1, d2] => { results := [.lit (.bool true)], args := [d1, d2] }
  | _ => none }
def fnValidKeyConcatenationRow : OpenClaim := { program := "qxb6003791a", sum := "25cd17acf61298526b9e9939ebc045fa15fccc79ee8c06efa6cde698b959cf91", func := "example.com/gridloom/gridloom/zzlaws_pkg_grid_g1.FnValidKeyConcatenation", spec := "fnValidKeyConcatenation", apart := false }
def FnValidKeyConcatenationSaid : Prop := fnValidKeyConcatenationRow.holds Try.pinned (OpenSpec.ofChange fnValidKeyConcatenationSpec)

/-- ITS FALSE NEIGHBOUR: 'it returns false'. Refute it at one input. -/
def fnValidKeyConcatenationWrong : ChangeSpec := { name := "fnValidKeyConcatenation", fn := fun _ => fun
  | [d1, d2] => { results := [.lit (.bool false)], args := [d1, d2] }
  | _ => none }
def FnValidKeyConcatenationWrongFalsely : Prop := fnValidKeyConcatenationRow.holds Try.pinned (OpenSpec.ofChange fnValidKeyConcatenationWrong)

/-- 'zzlaws_pkg_grid_g1.FnNewestBySideIsPerSideMaximum': WHATEVER THE INPUT: true; the input reads as it did. -/
def fnNewestBySideIsPerSideMaximumSpec : ChangeSpec := { name := "fnNewestBySideIsPerSideMaximum", fn := fun _ => fun
  | [d1, d2, d3, d4] => { results := [.lit (.bool true)], args := [d1, d2, d3, d4] }
  | _ => none }
def fnNewestBySideIsPerSideMaximumRow : OpenClaim := { program := "qxb6003791a", sum := "25cd17acf61298526b9e9939ebc045fa15fccc79ee8c06efa6cde698b959cf91", func := "example.com/gridloom/gridloom/zzlaws_pkg_grid_g1.FnNewestBySideIsPerSideMaximum", spec := "fnNewestBySideIsPerSideMaximum", recurses := true, apart := false }
def FnNewestBySideIsPerSideMaximumSaid : Prop := fnNewestBySideIsPerSideMaximumRow.holds Try.pinned (OpenSpec.ofChange fnNewestBySideIsPerSideMaximumSpec)

/-- ITS FALSE NEIGHBOUR: 'it returns false'. Refute it at one input. -/
def fnNewestBySideIsPerSideMaximumWrong : ChangeSpec := { name := "fnNewestBySideIsPerSideMaximum", fn := fun _ => fun
  | [d1, d2, d3, d4] => { results := [.lit (.bool false)], args := [d1, d2, d3, d4] }
  | _ => none }
def FnNewestBySideIsPerSideMaximumWrongFalsely : Prop := fnNewestBySideIsPerSideMaximumRow.holds Try.pinned (OpenSpec.ofChange fnNewestBySideIsPerSideMaximumWrong)

/-- 'zzlaws_pkg_grid_g1.FnNewTableIsRendezvousTopN': WHATEVER THE INPUT: true; the input reads as it did. -/
def fnNewTableIsRendezvousTopNSpec : ChangeSpec := { name := "fnNewTableIsRendezvousTopN", fn := fun _ => fun
  | [d1, d2, d3] => { results := [.lit (.bool true)], args := [d1, d2, d3] }
  | _ => none }
def fnNewTableIsRendezvousTopNRow : OpenClaim := { program := "qxb6003791a", sum := "25cd17acf61298526b9e9939ebc045fa15fccc79ee8c06efa6cde698b959cf91", func := "example.com/gridloom/gridloom/zzlaws_pkg_grid_g1.FnNewTableIsRendezvousTopN", spec := "fnNewTableIsRendezvousTopN", apart := false }
def FnNewTableIsRendezvousTopNSaid : Prop := fnNewTableIsRendezvousTopNRow.holds Try.pinned (OpenSpec.ofChange fnNewTableIsRendezvousTopNSpec)

/-- ITS FALSE NEIGHBOUR: 'it returns false'. Refute it at one input. -/
def fnNewTableIsRendezvousTopNWrong : ChangeSpec := { name := "fnNewTableIsRendezvousTopN", fn := fun _ => fun
  | [d1, d2, d3] => { results := [.lit (.bool false)], args := [d1, d2, d3] }
  | _ => none }
def FnNewTableIsRendezvousTopNWrongFalsely : Prop := fnNewTableIsRendezvousTopNRow.holds Try.pinned (OpenSpec.ofChange fnNewTableIsRendezvousTopNWrong)

end Rows
end Go.Proofs.Qxb6003791a
