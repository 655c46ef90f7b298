/-
  DERIVED: THE SHELF's CONTRACTS AT THIS DUMP, IN PLAIN WORDS (tools/lay-plain.mjs out of 'YtifnhinopjgfaaaGreatShelf.lean', which tools/lay-shelf.mjs wrote): THE SAME DECLARATIONS UNDER THE SAME NAMES: 'import', 'namespace', 'open', 'def', 'theorem' AND NOTHING ELSE: no command of the shelf's: FOR A HAND-IN. Each laying: the table of numbers ('.._ren') and one theorem, a field a fact of the dump's own or the kernel's comparison; each contract: ONE APPLICATION.
-/
import Derived.Shelf.Sort.Plain
import Derived.Shelf.Slices.In.SortNone2
import Derived.Test.YtifnhinopjgfaaaGreatProg
namespace Go.Proofs
open Go.Shelf
def Tryz.lays192_ren : Go.Shelf.Ren := ⟨fun | 192 => 73 | 190 => 78 | 125 => 82 | 258 => 81 | 128 => 92 | 129 => 93 | 302 => 83 | 303 => 84 | 304 => 85 | 305 => 86 | 306 => 87 | 307 => 88 | 308 => 89 | 309 => 90 | 310 => 91 | 333 => 94 | 329 => 95 | 330 => 96 | 334 => 97 | 335 => 98 | 336 => 99 | 344 => 100 | n => n, fun | 31 => 27 | 0 => 0 | 9 => 9 | 3 => 3 | 46 => 153 | 51 => 187 | 53 => 59 | 4 => 4 | 183 => 180 | 182 => 179 | 131 => 105 | 5 => 5 | 218 => 189 | 222 => 193 | 228 => 196 | 229 => 197 | n => n, fun | n => n⟩
theorem Tryz.lays192 : Go.Proofs.Lays.n192 Tryz.prog Tryz.lays192_ren := {
 mixed := by kernel_rfl
 f125 := Tryz.func82.trans (congrArg some (by kernel_rfl))
 f128 := Tryz.func92.trans (congrArg some (by kernel_rfl))
 f129 := Tryz.func93.trans (congrArg some (by kernel_rfl))
 f190 := Tryz.func78.trans (congrArg some (by kernel_rfl))
 f192 := Tryz.func73.trans (congrArg some (by kernel_rfl))
 f258 := Tryz.func81.trans (congrArg some (by kernel_rfl))
 f302 := Tryz.func83.trans (congrArg some (by kernel_rfl))
 f303 := Tryz.func84.trans (congrArg some (by kernel_rfl))
 f304 := Tryz.func85.trans (congrArg some (by kernel_rfl))
 f305 := Tryz.func86.trans (congrArg some (by kernel_rfl))
 f306 := Tryz.func87.trans (congrArg some (by kernel_rfl))
 f307 := Tryz.func88.trans (congrArg some (by kernel_rfl))
 f308 := Tryz.func89.trans (congrArg some (by kernel_rfl))
 f309 := Tryz.func90.trans (congrArg some (by kernel_rfl))
 f310 := Tryz.func91.trans (congrArg some (by kernel_rfl))
 f329 := Tryz.func95.trans (congrArg some (by kernel_rfl))
 f330 := Tryz.func96.trans (congrArg some (by kernel_rfl))
 f333 := Tryz.func94.trans (congrArg some (by kernel_rfl))
 f334 := Tryz.func97.trans (congrArg some (by kernel_rfl))
 f335 := Tryz.func98.trans (congrArg some (by kernel_rfl))
 f336 := Tryz.func99.trans (congrArg some (by kernel_rfl))
 f344 := Tryz.func100.trans (congrArg some (by kernel_rfl))
 t0 := Tryz.underlying0
 a0 := Tryz.isAgg0
 z0 := Tryz.sizeOf0
 v0 := Tryz.zeroValue0
 t3 := Tryz.underlying3
 a3 := Tryz.isAgg3
 z3 := Tryz.sizeOf3
 v3 := Tryz.zeroValue3
 t4 := Tryz.underlying4
 a4 := Tryz.isAgg4
 z4 := Tryz.sizeOf4
 v4 := Tryz.zeroValue4
 t5 := Tryz.underlying5
 a5 := Tryz.isAgg5
 z5 := Tryz.sizeOf5
 v5 := Tryz.zeroValue5
 t9 := Tryz.underlying9
 a9 := Tryz.isAgg9
 z9 := Tryz.sizeOf9
 v9 := Tryz.zeroValue9
 t31 := Tryz.underlying27
 a31 := Tryz.isAgg27
 z31 := Tryz.sizeOf27
 v31 := Tryz.zeroValue27
 t46 := Tryz.underlying153
 a46 := Tryz.isAgg153
 z46 := Tryz.sizeOf153
 v46 := Tryz.zeroValue153
 t51 := Tryz.underlying187
 a51 := Tryz.isAgg187
 z51 := Tryz.sizeOf187
 v51 := Tryz.zeroValue187
 t53 := Tryz.underlying59
 a53 := Tryz.isAgg59
 z53 := Tryz.sizeOf59
 v53 := Tryz.zeroValue59
 t131 := Tryz.underlying105
 a131 := Tryz.isAgg105
 z131 := Tryz.sizeOf105
 v131 := Tryz.zeroValue105
 t182 := Tryz.underlying179
 a182 := Tryz.isAgg179
 z182 := Tryz.sizeOf179
 v182 := Tryz.zeroValue179
 t183 := Tryz.underlying180
 a183 := Tryz.isAgg180
 z183 := Tryz.sizeOf180
 v183 := Tryz.zeroValue180
 t218 := Tryz.underlying189
 a218 := Tryz.isAgg189
 z218 := Tryz.sizeOf189
 v218 := Tryz.zeroValue189
 t222 := Tryz.underlying193
 a222 := Tryz.isAgg193
 z222 := Tryz.sizeOf193
 v222 := Tryz.zeroValue193
 t228 := Tryz.underlying196
 a228 := Tryz.isAgg196
 z228 := Tryz.sizeOf196
 v228 := Tryz.zeroValue196
 t229 := Tryz.underlying197
 a229 := Tryz.isAgg197
 z229 := Tryz.sizeOf197
 v229 := Tryz.zeroValue197 }
open Go.Sort Go.RowKit in
/-- sort.Strings sorts a row of texts. -/
theorem Tryz.sort_Strings (blk off cap : Nat) (ss : List (List UInt8)) (w : World) (hH : Holds encStr w blk off ss.toArray) (hblk : blk < w.heap.size) (hsz : ss.length < 4611686018427387904) :
  Calls Tryz.prog 73 #[.slice (some ⟨blk, off, none⟩) ss.length cap] w fun e w' =>
   e = .returned (.tuple #[]) ∧ ∃ n os, w' = grow (putRow encStr (Sort.ahead w n) blk off (ss.mergeSort fun x y => decide (x ≤ y)).toArray) os := Any.sort_Strings Tryz.lays192 blk off cap ss w hH hblk hsz
open Go.RowKit Go.Sort in
/-- no text is sorted. -/
theorem Tryz.sort_Strings_none (p : Option Addr) (cap : Nat) (w : World) :
  Calls Tryz.prog 73 #[.slice p 0 cap] w fun e w' => e = .returned (.tuple #[]) ∧ w' = w := Any.sort_Strings_none Tryz.lays192 p cap w
end Go.Proofs
