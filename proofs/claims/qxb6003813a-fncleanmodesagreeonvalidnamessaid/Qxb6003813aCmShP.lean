/-
  DERIVED: THE SHELF's CONTRACTS AT THIS DUMP, IN PLAIN WORDS (tools/lay-plain.mjs out of 'Qxb6003813aCmSh.lean', which tools/lay-shelf.mjs wrote): THE SAME DECLARATIONS UNDER THE SAME NAMES: 'import', 'namespace', 'open', 'def', 'theorem' AND NOTHING ELSE: no command of the shelf's: FOR A HAND-IN. Each laying: the table of numbers ('.._ren') and one theorem, a field a fact of the dump's own or the kernel's comparison; each contract: ONE APPLICATION.
-/
import Derived.Shelf.Path.CleanRules
import Derived.Shelf.Strings.Prefix
import Derived.Test.Qxb6003813aProg
namespace Go.Proofs
open Go.Shelf
def Try.laysPah30_ren : Go.Shelf.Ren := ⟨fun | 30 => 24 | 46 => 27 | 47 => 28 | 48 => 29 | n => n, fun | 9 => 9 | 4 => 4 | 5 => 5 | 3 => 3 | 42 => 71 | 0 => 0 | 48 => 75 | 30 => 51 | n => n, fun | n => n⟩
theorem Try.laysPah30 : Go.Proofs.Lays.ph30 Try.prog Try.laysPah30_ren := {
  mixed := by kernel_rfl
  f30 := Try.func24.trans (congrArg some (by kernel_rfl))
  f46 := Try.func27.trans (congrArg some (by kernel_rfl))
  f47 := Try.func28.trans (congrArg some (by kernel_rfl))
  f48 := Try.func29.trans (congrArg some (by kernel_rfl))
  t0 := Try.underlying0
  a0 := Try.isAgg0
  z0 := Try.sizeOf0
  v0 := Try.zeroValue0
  t3 := Try.underlying3
  a3 := Try.isAgg3
  z3 := Try.sizeOf3
  v3 := Try.zeroValue3
  t4 := Try.underlying4
  a4 := Try.isAgg4
  z4 := Try.sizeOf4
  v4 := Try.zeroValue4
  t5 := Try.underlying5
  a5 := Try.isAgg5
  z5 := Try.sizeOf5
  v5 := Try.zeroValue5
  t9 := Try.underlying9
  a9 := Try.isAgg9
  z9 := Try.sizeOf9
  v9 := Try.zeroValue9
  t30 := Try.underlying51
  a30 := Try.isAgg51
  z30 := Try.sizeOf51
  v30 := Try.zeroValue51
  t42 := Try.underlying71
  a42 := Try.isAgg71
  z42 := Try.sizeOf71
  v42 := Try.zeroValue71
  t48 := Try.underlying75
  a48 := Try.isAgg75
  z48 := Try.sizeOf75
  v48 := Try.zeroValue75
  info5 := by kernel_rfl }
theorem Try.path_Clean_rules (s : ByteArray) (w : World) (hbig : s.size ≤ 281474976710656) :
    Calls Try.prog 24 #[.string s] w fun e w' => e = .returned (.string ⟨(Go.Lib.Pa.cleanEls s.data.toList).toArray⟩) ∧ Go.RowKit.Below w.heap.size w w' := Any.path_Clean_rules Try.laysPah30 s w hbig
def Try.lays99_ren : Go.Shelf.Ren := ⟨fun | 99 => 23 | 206 => 26 | n => n, fun | 9 => 9 | 4 => 4 | 3 => 3 | n => n, fun | n => n⟩
theorem Try.lays99 : Go.Proofs.Lays.n99 Try.prog Try.lays99_ren := {
  mixed := by kernel_rfl
  f99 := Try.func23.trans (congrArg some (by kernel_rfl))
  f206 := Try.func26.trans (congrArg some (by kernel_rfl))
  t3 := Try.underlying3
  a3 := Try.isAgg3
  z3 := Try.sizeOf3
  v3 := Try.zeroValue3
  t4 := Try.underlying4
  a4 := Try.isAgg4
  z4 := Try.sizeOf4
  v4 := Try.zeroValue4
  t9 := Try.underlying9
  a9 := Try.isAgg9
  z9 := Try.sizeOf9
  v9 := Try.zeroValue9 }
theorem Try.strings_HasPrefix (s p : ByteArray) (w : World) :
    Calls Try.prog 23 #[.string s, .string p] w fun e w' => e = .returned (.bool (Lib.hasPrefix s.data.toList p.data.toList)) ∧ w' = w := Any.strings_HasPrefix Try.lays99 s p w
end Go.Proofs
