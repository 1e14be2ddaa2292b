/-
  DERIVED: THE SHELF's CONTRACTS AT THIS DUMP, IN PLAIN WORDS (tools/lay-plain.mjs out of 'TryShelf.lean', which tools/lay-shelf.mjs wrote): THE SAME DECLARATIONS UNDER THE SAME NAMES: 'import', 'namespace', 'open', 'def', 'theorem' AND NOTHING ELSE: no command of the shelf's: FOR A HAND-IN. Each laying: the table of numbers ('.._ren') and one theorem, a field a fact of the dump's own or the kernel's comparison; each contract: ONE APPLICATION.
-/
import Derived.Shelf.Sort.Plain
import Derived.Test.Qxb6600808aProg
namespace Go.Proofs
open Go.Shelf
def Try.lays190_ren : Go.Shelf.Ren := ⟨fun | 190 => 12 | 125 => 14 | 258 => 13 | 128 => 24 | 129 => 25 | 302 => 15 | 303 => 16 | 304 => 17 | 305 => 18 | 306 => 19 | 307 => 20 | 308 => 21 | 309 => 22 | 310 => 23 | 333 => 26 | 329 => 27 | 330 => 28 | 334 => 29 | 335 => 30 | 336 => 31 | 344 => 32 | n => n, fun | 31 => 22 | 9 => 9 | 3 => 3 | 46 => 40 | 0 => 0 | 51 => 51 | 53 => 53 | 4 => 4 | 183 => 43 | 182 => 42 | 131 => 48 | 5 => 5 | 218 => 54 | 222 => 58 | 228 => 61 | 229 => 62 | n => n, fun | n => n⟩
theorem Try.lays190 : Go.Proofs.Lays.n190 Try.prog Try.lays190_ren := {
  mixed := by kernel_rfl
  f125 := Try.func14.trans (congrArg some (by kernel_rfl))
  f128 := Try.func24.trans (congrArg some (by kernel_rfl))
  f129 := Try.func25.trans (congrArg some (by kernel_rfl))
  f190 := Try.func12.trans (congrArg some (by kernel_rfl))
  f258 := Try.func13.trans (congrArg some (by kernel_rfl))
  f302 := Try.func15.trans (congrArg some (by kernel_rfl))
  f303 := Try.func16.trans (congrArg some (by kernel_rfl))
  f304 := Try.func17.trans (congrArg some (by kernel_rfl))
  f305 := Try.func18.trans (congrArg some (by kernel_rfl))
  f306 := Try.func19.trans (congrArg some (by kernel_rfl))
  f307 := Try.func20.trans (congrArg some (by kernel_rfl))
  f308 := Try.func21.trans (congrArg some (by kernel_rfl))
  f309 := Try.func22.trans (congrArg some (by kernel_rfl))
  f310 := Try.func23.trans (congrArg some (by kernel_rfl))
  f329 := Try.func27.trans (congrArg some (by kernel_rfl))
  f330 := Try.func28.trans (congrArg some (by kernel_rfl))
  f333 := Try.func26.trans (congrArg some (by kernel_rfl))
  f334 := Try.func29.trans (congrArg some (by kernel_rfl))
  f335 := Try.func30.trans (congrArg some (by kernel_rfl))
  f336 := Try.func31.trans (congrArg some (by kernel_rfl))
  f344 := Try.func32.trans (congrArg some (by kernel_rfl))
  t0 := Try.underlying0
  a0 := Try.isAgg0
  z0 := Try.sizeOf0
  v0 := Try.zeroValue0
  t3 := Try.underlying3
  a3 := Try.isAgg3
  z3 := Try.sizeOf3
  v3 := Try.zeroValue3
  t4 := Try.underlying4
  a4 := Try.isAgg4
  z4 := Try.sizeOf4
  v4 := Try.zeroValue4
  t5 := Try.underlying5
  a5 := Try.isAgg5
  z5 := Try.sizeOf5
  v5 := Try.zeroValue5
  t9 := Try.underlying9
  a9 := Try.isAgg9
  z9 := Try.sizeOf9
  v9 := Try.zeroValue9
  t31 := Try.underlying22
  a31 := Try.isAgg22
  z31 := Try.sizeOf22
  v31 := Try.zeroValue22
  t46 := Try.underlying40
  a46 := Try.isAgg40
  z46 := Try.sizeOf40
  v46 := Try.zeroValue40
  t51 := Try.underlying51
  a51 := Try.isAgg51
  z51 := Try.sizeOf51
  v51 := Try.zeroValue51
  t53 := Try.underlying53
  a53 := Try.isAgg53
  z53 := Try.sizeOf53
  v53 := Try.zeroValue53
  t131 := Try.underlying48
  a131 := Try.isAgg48
  z131 := Try.sizeOf48
  v131 := Try.zeroValue48
  t182 := Try.underlying42
  a182 := Try.isAgg42
  z182 := Try.sizeOf42
  v182 := Try.zeroValue42
  t183 := Try.underlying43
  a183 := Try.isAgg43
  z183 := Try.sizeOf43
  v183 := Try.zeroValue43
  t218 := Try.underlying54
  a218 := Try.isAgg54
  z218 := Try.sizeOf54
  v218 := Try.zeroValue54
  t222 := Try.underlying58
  a222 := Try.isAgg58
  z222 := Try.sizeOf58
  v222 := Try.zeroValue58
  t228 := Try.underlying61
  a228 := Try.isAgg61
  z228 := Try.sizeOf61
  v228 := Try.zeroValue61
  t229 := Try.underlying62
  a229 := Try.isAgg62
  z229 := Try.sizeOf62
  v229 := Try.zeroValue62 }
open Go.Sort Go.RowKit in
theorem Try.slices_Sort_string (blk off cap : Nat) (ss : List (List UInt8)) (w : World) (hH : Holds encStr w blk off ss.toArray) (hblk : blk < w.heap.size) (hsz : ss.length < 4611686018427387904) :
    Calls Try.prog 12 #[.slice (some ⟨blk, off, none⟩) ss.length cap] w fun e w' =>
      e = .returned (.tuple #[]) ∧ ∃ n os, w' = grow (putRow encStr (Sort.ahead w n) blk off (ss.mergeSort fun x y => decide (x ≤ y)).toArray) os := Any.slices_Sort_string Try.lays190 blk off cap ss w hH hblk hsz
end Go.Proofs
