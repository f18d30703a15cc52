/-
  DERIVED: THE SHELF's CONTRACTS AT THIS DUMP, IN PLAIN WORDS (tools/lay-plain.mjs out of 'Qxb6003791aNbSh.lean', which tools/lay-shelf.mjs wrote): THE SAME DECLARATIONS UNDER THE SAME NAMES: 'import', 'namespace', 'open', 'def', 'theorem' AND NOTHING ELSE: no command of the shelf's: FOR A HAND-IN. Each laying: the table of numbers ('.._ren') and one theorem, a field a fact of the dump's own or the kernel's comparison; each contract: ONE APPLICATION.
-/
import Derived.Shelf.Sort.Plain
import Derived.Test.Qxb6003791aProg
namespace Go.Proofs
open Go.Shelf
def Try.lays191_ren : Go.Shelf.Ren := ⟨fun | 191 => 46 | 189 => 47 | 125 => 49 | 257 => 48 | 128 => 59 | 129 => 60 | 294 => 50 | 295 => 51 | 296 => 52 | 297 => 53 | 298 => 54 | 299 => 55 | 216 => 56 | 300 => 57 | 301 => 58 | 328 => 61 | 329 => 62 | 330 => 63 | 331 => 64 | 332 => 65 | 215 => 66 | 343 => 67 | n => n, fun | 28 => 54 | 0 => 0 | 3 => 3 | 46 => 86 | 51 => 98 | 53 => 34 | 4 => 4 | 183 => 91 | 182 => 90 | 131 => 85 | 5 => 5 | 9 => 9 | 218 => 100 | 222 => 104 | 228 => 107 | 229 => 108 | n => n, fun | n => n⟩
theorem Try.lays191 : Go.Proofs.Lays.n191 Try.prog Try.lays191_ren := {
  mixed := by kernel_rfl
  f125 := Try.func49.trans (congrArg some (by kernel_rfl))
  f128 := Try.func59.trans (congrArg some (by kernel_rfl))
  f129 := Try.func60.trans (congrArg some (by kernel_rfl))
  f189 := Try.func47.trans (congrArg some (by kernel_rfl))
  f191 := Try.func46.trans (congrArg some (by kernel_rfl))
  f215 := Try.func66.trans (congrArg some (by kernel_rfl))
  f216 := Try.func56.trans (congrArg some (by kernel_rfl))
  f257 := Try.func48.trans (congrArg some (by kernel_rfl))
  f294 := Try.func50.trans (congrArg some (by kernel_rfl))
  f295 := Try.func51.trans (congrArg some (by kernel_rfl))
  f296 := Try.func52.trans (congrArg some (by kernel_rfl))
  f297 := Try.func53.trans (congrArg some (by kernel_rfl))
  f298 := Try.func54.trans (congrArg some (by kernel_rfl))
  f299 := Try.func55.trans (congrArg some (by kernel_rfl))
  f300 := Try.func57.trans (congrArg some (by kernel_rfl))
  f301 := Try.func58.trans (congrArg some (by kernel_rfl))
  f328 := Try.func61.trans (congrArg some (by kernel_rfl))
  f329 := Try.func62.trans (congrArg some (by kernel_rfl))
  f330 := Try.func63.trans (congrArg some (by kernel_rfl))
  f331 := Try.func64.trans (congrArg some (by kernel_rfl))
  f332 := Try.func65.trans (congrArg some (by kernel_rfl))
  f343 := Try.func67.trans (congrArg some (by kernel_rfl))
  t0 := Try.underlying0
  a0 := Try.isAgg0
  z0 := Try.sizeOf0
  v0 := Try.zeroValue0
  t3 := Try.underlying3
  a3 := Try.isAgg3
  z3 := Try.sizeOf3
  v3 := Try.zeroValue3
  t4 := Try.underlying4
  a4 := Try.isAgg4
  z4 := Try.sizeOf4
  v4 := Try.zeroValue4
  t5 := Try.underlying5
  a5 := Try.isAgg5
  z5 := Try.sizeOf5
  v5 := Try.zeroValue5
  t9 := Try.underlying9
  a9 := Try.isAgg9
  z9 := Try.sizeOf9
  v9 := Try.zeroValue9
  t28 := Try.underlying54
  a28 := Try.isAgg54
  z28 := Try.sizeOf54
  v28 := Try.zeroValue54
  t46 := Try.underlying86
  a46 := Try.isAgg86
  z46 := Try.sizeOf86
  v46 := Try.zeroValue86
  t51 := Try.underlying98
  a51 := Try.isAgg98
  z51 := Try.sizeOf98
  v51 := Try.zeroValue98
  t53 := Try.underlying34
  a53 := Try.isAgg34
  z53 := Try.sizeOf34
  v53 := Try.zeroValue34
  t131 := Try.underlying85
  a131 := Try.isAgg85
  z131 := Try.sizeOf85
  v131 := Try.zeroValue85
  t182 := Try.underlying90
  a182 := Try.isAgg90
  z182 := Try.sizeOf90
  v182 := Try.zeroValue90
  t183 := Try.underlying91
  a183 := Try.isAgg91
  z183 := Try.sizeOf91
  v183 := Try.zeroValue91
  t218 := Try.underlying100
  a218 := Try.isAgg100
  z218 := Try.sizeOf100
  v218 := Try.zeroValue100
  t222 := Try.underlying104
  a222 := Try.isAgg104
  z222 := Try.sizeOf104
  v222 := Try.zeroValue104
  t228 := Try.underlying107
  a228 := Try.isAgg107
  z228 := Try.sizeOf107
  v228 := Try.zeroValue107
  t229 := Try.underlying108
  a229 := Try.isAgg108
  z229 := Try.sizeOf108
  v229 := Try.zeroValue108 }
theorem Try.sort_Ints (blk off cap : Nat) (zs : List Int) (w : World) (hH : Go.Sort.Holds (Value.int .i64) w blk off zs.toArray) (hblk : blk < w.heap.size) (hsz : zs.length < 4611686018427387904) :
    Calls Try.prog 46 #[.slice (some ⟨blk, off, none⟩) zs.length cap] w fun e w' =>
      e = .returned (.tuple #[]) ∧ ∃ n os, w' = Go.Sort.grow (Go.Sort.putRow (Value.int .i64) (Sort.ahead w n) blk off (zs.mergeSort fun x y => decide (x ≤ y)).toArray) os := Any.sort_Ints Try.lays191 blk off cap zs w hH hblk hsz
end Go.Proofs
