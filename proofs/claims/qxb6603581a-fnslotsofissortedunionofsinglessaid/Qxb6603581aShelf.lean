/-
  DERIVED: THE SHELF's CONTRACTS AT THIS DUMP, IN PLAIN WORDS (tools/lay-plain.mjs out of 'TryShelf.lean', which tools/lay-shelf.mjs wrote): THE SAME DECLARATIONS UNDER THE SAME NAMES: 'import', 'namespace', 'open', 'def', 'theorem' AND NOTHING ELSE: no command of the shelf's: FOR A HAND-IN. Each laying: the table of numbers ('.._ren') and one theorem, a field a fact of the dump's own or the kernel's comparison; each contract: ONE APPLICATION.
-/
import Derived.Shelf.Sort.Plain
import Derived.Shelf.Slices.In.SortNone
import Derived.Shelf.Slices.In.SortNone2
import Derived.Test.Qxb6603581aProg
namespace Go.Proofs
open Go.Shelf
def Try.lays191_ren : Go.Shelf.Ren := ⟨fun | 191 => 14 | 189 => 15 | 125 => 17 | 257 => 16 | 128 => 27 | 129 => 28 | 294 => 18 | 295 => 19 | 296 => 20 | 297 => 21 | 298 => 22 | 299 => 23 | 216 => 24 | 300 => 25 | 301 => 26 | 328 => 29 | 329 => 30 | 330 => 31 | 331 => 32 | 332 => 33 | 215 => 34 | 343 => 35 | n => n, fun | 28 => 29 | 0 => 0 | 3 => 3 | 46 => 52 | 51 => 26 | 53 => 64 | 4 => 4 | 183 => 55 | 182 => 54 | 131 => 60 | 5 => 5 | 9 => 9 | 218 => 65 | 222 => 69 | 228 => 72 | 229 => 73 | n => n, fun | n => n⟩
theorem Try.lays191 : Go.Proofs.Lays.n191 Try.prog Try.lays191_ren := {
  mixed := by kernel_rfl
  f125 := Try.func17.trans (congrArg some (by kernel_rfl))
  f128 := Try.func27.trans (congrArg some (by kernel_rfl))
  f129 := Try.func28.trans (congrArg some (by kernel_rfl))
  f189 := Try.func15.trans (congrArg some (by kernel_rfl))
  f191 := Try.func14.trans (congrArg some (by kernel_rfl))
  f215 := Try.func34.trans (congrArg some (by kernel_rfl))
  f216 := Try.func24.trans (congrArg some (by kernel_rfl))
  f257 := Try.func16.trans (congrArg some (by kernel_rfl))
  f294 := Try.func18.trans (congrArg some (by kernel_rfl))
  f295 := Try.func19.trans (congrArg some (by kernel_rfl))
  f296 := Try.func20.trans (congrArg some (by kernel_rfl))
  f297 := Try.func21.trans (congrArg some (by kernel_rfl))
  f298 := Try.func22.trans (congrArg some (by kernel_rfl))
  f299 := Try.func23.trans (congrArg some (by kernel_rfl))
  f300 := Try.func25.trans (congrArg some (by kernel_rfl))
  f301 := Try.func26.trans (congrArg some (by kernel_rfl))
  f328 := Try.func29.trans (congrArg some (by kernel_rfl))
  f329 := Try.func30.trans (congrArg some (by kernel_rfl))
  f330 := Try.func31.trans (congrArg some (by kernel_rfl))
  f331 := Try.func32.trans (congrArg some (by kernel_rfl))
  f332 := Try.func33.trans (congrArg some (by kernel_rfl))
  f343 := Try.func35.trans (congrArg some (by kernel_rfl))
  t0 := Try.underlying0
  a0 := Try.isAgg0
  z0 := Try.sizeOf0
  v0 := Try.zeroValue0
  t3 := Try.underlying3
  a3 := Try.isAgg3
  z3 := Try.sizeOf3
  v3 := Try.zeroValue3
  t4 := Try.underlying4
  a4 := Try.isAgg4
  z4 := Try.sizeOf4
  v4 := Try.zeroValue4
  t5 := Try.underlying5
  a5 := Try.isAgg5
  z5 := Try.sizeOf5
  v5 := Try.zeroValue5
  t9 := Try.underlying9
  a9 := Try.isAgg9
  z9 := Try.sizeOf9
  v9 := Try.zeroValue9
  t28 := Try.underlying29
  a28 := Try.isAgg29
  z28 := Try.sizeOf29
  v28 := Try.zeroValue29
  t46 := Try.underlying52
  a46 := Try.isAgg52
  z46 := Try.sizeOf52
  v46 := Try.zeroValue52
  t51 := Try.underlying26
  a51 := Try.isAgg26
  z51 := Try.sizeOf26
  v51 := Try.zeroValue26
  t53 := Try.underlying64
  a53 := Try.isAgg64
  z53 := Try.sizeOf64
  v53 := Try.zeroValue64
  t131 := Try.underlying60
  a131 := Try.isAgg60
  z131 := Try.sizeOf60
  v131 := Try.zeroValue60
  t182 := Try.underlying54
  a182 := Try.isAgg54
  z182 := Try.sizeOf54
  v182 := Try.zeroValue54
  t183 := Try.underlying55
  a183 := Try.isAgg55
  z183 := Try.sizeOf55
  v183 := Try.zeroValue55
  t218 := Try.underlying65
  a218 := Try.isAgg65
  z218 := Try.sizeOf65
  v218 := Try.zeroValue65
  t222 := Try.underlying69
  a222 := Try.isAgg69
  z222 := Try.sizeOf69
  v222 := Try.zeroValue69
  t228 := Try.underlying72
  a228 := Try.isAgg72
  z228 := Try.sizeOf72
  v228 := Try.zeroValue72
  t229 := Try.underlying73
  a229 := Try.isAgg73
  z229 := Try.sizeOf73
  v229 := Try.zeroValue73 }
open Go.Sort Go.RowKit in
theorem Try.sort_Ints (blk off cap : Nat) (zs : List Int) (w : World) (hH : Holds (Value.int .i64) w blk off zs.toArray) (hblk : blk < w.heap.size) (hsz : zs.length < 4611686018427387904) :
    Calls Try.prog 14 #[.slice (some ⟨blk, off, none⟩) zs.length cap] w fun e w' =>
      e = .returned (.tuple #[]) ∧ ∃ n os, w' = grow (putRow (Value.int .i64) (Sort.ahead w n) blk off (zs.mergeSort fun x y => decide (x ≤ y)).toArray) os := Any.sort_Ints Try.lays191 blk off cap zs w hH hblk hsz
open Go.RowKit Go.Sort in
/-- .. and plain. (LAID: no walk: one application.) -/
theorem Try.sort_Ints_none (p : Option Addr) (cap : Nat) (w : World) :
    Calls Try.prog 14 #[.slice p 0 cap] w fun e w' => e = .returned (.tuple #[]) ∧ w' = w := Any.sort_Ints_none Try.lays191 p cap w
end Go.Proofs
