/-
  DERIVED: THE SHELF's CONTRACTS AT THIS DUMP, IN PLAIN WORDS (tools/lay-plain.mjs out of 'TryzShelfX.lean', which tools/lay-shelf.mjs wrote): THE SAME DECLARATIONS UNDER THE SAME NAMES: 'import', 'namespace', 'open', 'def', 'theorem' AND NOTHING ELSE: no command of the shelf's: FOR A HAND-IN. Each laying: the table of numbers ('.._ren') and one theorem, a field a fact of the dump's own or the kernel's comparison; each contract: ONE APPLICATION.
-/
import Derived.Shelf.Strings.TrimSpace
import Derived.Shelf.Small.Bits
import Derived.Shelf.Small.Strs
import Derived.Shelf.Strings.Search1
import Derived.Ground.SlsfProg
import Derived.Shelf.SlSortCmp.Insertion
import Derived.Shelf.SlSortCmp.Small
import Derived.Shelf.SlSortCmp.SmallK
import Derived.Shelf.Sort.Plain
import Derived.Test.YtpdnjgbcnnjdiaaGreatDoorProg
namespace Go.Proofs
open Go.Shelf
def Tryz.lays190_ren : Go.Shelf.Ren := ⟨fun | 190 => 36 | 125 => 45 | 258 => 44 | 128 => 68 | 129 => 69 | 302 => 59 | 303 => 60 | 304 => 61 | 305 => 62 | 306 => 63 | 307 => 64 | 308 => 65 | 309 => 66 | 310 => 67 | 333 => 77 | 329 => 78 | 330 => 79 | 334 => 80 | 335 => 81 | 336 => 82 | 344 => 96 | n => n, fun | 31 => 22 | 9 => 9 | 3 => 3 | 46 => 51 | 0 => 0 | 51 => 112 | 53 => 123 | 4 => 4 | 183 => 115 | 182 => 114 | 131 => 119 | 5 => 5 | 218 => 132 | 222 => 136 | 228 => 149 | 229 => 150 | n => n, fun | n => n⟩
theorem Tryz.lays190 : Go.Proofs.Lays.n190 Tryz.prog Tryz.lays190_ren := {
  mixed := by kernel_rfl
  f125 := Tryz.func45.trans (congrArg some (by kernel_rfl))
  f128 := Tryz.func68.trans (congrArg some (by kernel_rfl))
  f129 := Tryz.func69.trans (congrArg some (by kernel_rfl))
  f190 := Tryz.func36.trans (congrArg some (by kernel_rfl))
  f258 := Tryz.func44.trans (congrArg some (by kernel_rfl))
  f302 := Tryz.func59.trans (congrArg some (by kernel_rfl))
  f303 := Tryz.func60.trans (congrArg some (by kernel_rfl))
  f304 := Tryz.func61.trans (congrArg some (by kernel_rfl))
  f305 := Tryz.func62.trans (congrArg some (by kernel_rfl))
  f306 := Tryz.func63.trans (congrArg some (by kernel_rfl))
  f307 := Tryz.func64.trans (congrArg some (by kernel_rfl))
  f308 := Tryz.func65.trans (congrArg some (by kernel_rfl))
  f309 := Tryz.func66.trans (congrArg some (by kernel_rfl))
  f310 := Tryz.func67.trans (congrArg some (by kernel_rfl))
  f329 := Tryz.func78.trans (congrArg some (by kernel_rfl))
  f330 := Tryz.func79.trans (congrArg some (by kernel_rfl))
  f333 := Tryz.func77.trans (congrArg some (by kernel_rfl))
  f334 := Tryz.func80.trans (congrArg some (by kernel_rfl))
  f335 := Tryz.func81.trans (congrArg some (by kernel_rfl))
  f336 := Tryz.func82.trans (congrArg some (by kernel_rfl))
  f344 := Tryz.func96.trans (congrArg some (by kernel_rfl))
  t0 := Tryz.underlying0
  a0 := Tryz.isAgg0
  z0 := Tryz.sizeOf0
  v0 := Tryz.zeroValue0
  t3 := Tryz.underlying3
  a3 := Tryz.isAgg3
  z3 := Tryz.sizeOf3
  v3 := Tryz.zeroValue3
  t4 := Tryz.underlying4
  a4 := Tryz.isAgg4
  z4 := Tryz.sizeOf4
  v4 := Tryz.zeroValue4
  t5 := Tryz.underlying5
  a5 := Tryz.isAgg5
  z5 := Tryz.sizeOf5
  v5 := Tryz.zeroValue5
  t9 := Tryz.underlying9
  a9 := Tryz.isAgg9
  z9 := Tryz.sizeOf9
  v9 := Tryz.zeroValue9
  t31 := Tryz.underlying22
  a31 := Tryz.isAgg22
  z31 := Tryz.sizeOf22
  v31 := Tryz.zeroValue22
  t46 := Tryz.underlying51
  a46 := Tryz.isAgg51
  z46 := Tryz.sizeOf51
  v46 := Tryz.zeroValue51
  t51 := Tryz.underlying112
  a51 := Tryz.isAgg112
  z51 := Tryz.sizeOf112
  v51 := Tryz.zeroValue112
  t53 := Tryz.underlying123
  a53 := Tryz.isAgg123
  z53 := Tryz.sizeOf123
  v53 := Tryz.zeroValue123
  t131 := Tryz.underlying119
  a131 := Tryz.isAgg119
  z131 := Tryz.sizeOf119
  v131 := Tryz.zeroValue119
  t182 := Tryz.underlying114
  a182 := Tryz.isAgg114
  z182 := Tryz.sizeOf114
  v182 := Tryz.zeroValue114
  t183 := Tryz.underlying115
  a183 := Tryz.isAgg115
  z183 := Tryz.sizeOf115
  v183 := Tryz.zeroValue115
  t218 := Tryz.underlying132
  a218 := Tryz.isAgg132
  z218 := Tryz.sizeOf132
  v218 := Tryz.zeroValue132
  t222 := Tryz.underlying136
  a222 := Tryz.isAgg136
  z222 := Tryz.sizeOf136
  v222 := Tryz.zeroValue136
  t228 := Tryz.underlying149
  a228 := Tryz.isAgg149
  z228 := Tryz.sizeOf149
  v228 := Tryz.zeroValue149
  t229 := Tryz.underlying150
  a229 := Tryz.isAgg150
  z229 := Tryz.sizeOf150
  v229 := Tryz.zeroValue150 }
open Go.Sort Go.RowKit in
theorem Tryz.slices_Sort_string (blk off cap : Nat) (ss : List (List UInt8)) (w : World) (hH : Holds encStr w blk off ss.toArray) (hblk : blk < w.heap.size) (hsz : ss.length < 4611686018427387904) :
    Calls Tryz.prog 36 #[.slice (some ⟨blk, off, none⟩) ss.length cap] w fun e w' =>
      e = .returned (.tuple #[]) ∧ ∃ n os, w' = grow (putRow encStr (Sort.ahead w n) blk off (ss.mergeSort fun x y => decide (x ≤ y)).toArray) os := Any.slices_Sort_string Tryz.lays190 blk off cap ss w hH hblk hsz
end Go.Proofs
