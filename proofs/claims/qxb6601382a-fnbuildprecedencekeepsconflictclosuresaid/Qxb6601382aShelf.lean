/-
  DERIVED: THE SHELF's CONTRACTS AT THIS DUMP, IN PLAIN WORDS (tools/lay-plain.mjs out of 'Qxb6601382aShelf.lean', which tools/lay-shelf.mjs wrote): THE SAME DECLARATIONS UNDER THE SAME NAMES: 'import', 'namespace', 'open', 'def', 'theorem' AND NOTHING ELSE: no command of the shelf's: FOR A HAND-IN. Each laying: the table of numbers ('.._ren') and one theorem, a field a fact of the dump's own or the kernel's comparison; each contract: ONE APPLICATION.
-/
import Derived.Shelf.Sort.Plain
import Derived.Shelf.Slices.In.SortNone
import Derived.Test.Qxb6601382aProg
namespace Go.Proofs
open Go.Shelf
def Try.lays189_ren : Go.Shelf.Ren := ⟨fun | 189 => 36 | 125 => 39 | 257 => 38 | 128 => 49 | 129 => 50 | 294 => 40 | 295 => 41 | 296 => 42 | 297 => 43 | 298 => 44 | 299 => 45 | 216 => 46 | 300 => 47 | 301 => 48 | 328 => 51 | 329 => 52 | 330 => 53 | 331 => 54 | 332 => 55 | 215 => 56 | 343 => 57 | n => n, fun | 28 => 24 | 3 => 3 | 46 => 74 | 0 => 0 | 51 => 85 | 53 => 87 | 4 => 4 | 183 => 77 | 182 => 76 | 131 => 82 | 5 => 5 | 9 => 9 | 218 => 88 | 222 => 92 | 228 => 95 | 229 => 96 | n => n, fun | n => n⟩
theorem Try.lays189 : Go.Proofs.Lays.n189 Try.prog Try.lays189_ren := {
  mixed := by kernel_rfl
  f125 := Try.func39.trans (congrArg some (by kernel_rfl))
  f128 := Try.func49.trans (congrArg some (by kernel_rfl))
  f129 := Try.func50.trans (congrArg some (by kernel_rfl))
  f189 := Try.func36.trans (congrArg some (by kernel_rfl))
  f215 := Try.func56.trans (congrArg some (by kernel_rfl))
  f216 := Try.func46.trans (congrArg some (by kernel_rfl))
  f257 := Try.func38.trans (congrArg some (by kernel_rfl))
  f294 := Try.func40.trans (congrArg some (by kernel_rfl))
  f295 := Try.func41.trans (congrArg some (by kernel_rfl))
  f296 := Try.func42.trans (congrArg some (by kernel_rfl))
  f297 := Try.func43.trans (congrArg some (by kernel_rfl))
  f298 := Try.func44.trans (congrArg some (by kernel_rfl))
  f299 := Try.func45.trans (congrArg some (by kernel_rfl))
  f300 := Try.func47.trans (congrArg some (by kernel_rfl))
  f301 := Try.func48.trans (congrArg some (by kernel_rfl))
  f328 := Try.func51.trans (congrArg some (by kernel_rfl))
  f329 := Try.func52.trans (congrArg some (by kernel_rfl))
  f330 := Try.func53.trans (congrArg some (by kernel_rfl))
  f331 := Try.func54.trans (congrArg some (by kernel_rfl))
  f332 := Try.func55.trans (congrArg some (by kernel_rfl))
  f343 := Try.func57.trans (congrArg some (by kernel_rfl))
  t0 := Try.underlying0
  a0 := Try.isAgg0
  z0 := Try.sizeOf0
  v0 := Try.zeroValue0
  t3 := Try.underlying3
  a3 := Try.isAgg3
  z3 := Try.sizeOf3
  v3 := Try.zeroValue3
  t4 := Try.underlying4
  a4 := Try.isAgg4
  z4 := Try.sizeOf4
  v4 := Try.zeroValue4
  t5 := Try.underlying5
  a5 := Try.isAgg5
  z5 := Try.sizeOf5
  v5 := Try.zeroValue5
  t9 := Try.underlying9
  a9 := Try.isAgg9
  z9 := Try.sizeOf9
  v9 := Try.zeroValue9
  t28 := Try.underlying24
  a28 := Try.isAgg24
  z28 := Try.sizeOf24
  v28 := Try.zeroValue24
  t46 := Try.underlying74
  a46 := Try.isAgg74
  z46 := Try.sizeOf74
  v46 := Try.zeroValue74
  t51 := Try.underlying85
  a51 := Try.isAgg85
  z51 := Try.sizeOf85
  v51 := Try.zeroValue85
  t53 := Try.underlying87
  a53 := Try.isAgg87
  z53 := Try.sizeOf87
  v53 := Try.zeroValue87
  t131 := Try.underlying82
  a131 := Try.isAgg82
  z131 := Try.sizeOf82
  v131 := Try.zeroValue82
  t182 := Try.underlying76
  a182 := Try.isAgg76
  z182 := Try.sizeOf76
  v182 := Try.zeroValue76
  t183 := Try.underlying77
  a183 := Try.isAgg77
  z183 := Try.sizeOf77
  v183 := Try.zeroValue77
  t218 := Try.underlying88
  a218 := Try.isAgg88
  z218 := Try.sizeOf88
  v218 := Try.zeroValue88
  t222 := Try.underlying92
  a222 := Try.isAgg92
  z222 := Try.sizeOf92
  v222 := Try.zeroValue92
  t228 := Try.underlying95
  a228 := Try.isAgg95
  z228 := Try.sizeOf95
  v228 := Try.zeroValue95
  t229 := Try.underlying96
  a229 := Try.isAgg96
  z229 := Try.sizeOf96
  v229 := Try.zeroValue96 }
open Go.Sort Go.RowKit in
theorem Try.slices_Sort_int (blk off cap : Nat) (zs : List Int) (w : World) (hH : Holds (Value.int .i64) w blk off zs.toArray) (hblk : blk < w.heap.size) (hsz : zs.length < 4611686018427387904) :
    Calls Try.prog 36 #[.slice (some ⟨blk, off, none⟩) zs.length cap] w fun e w' =>
      e = .returned (.tuple #[]) ∧ ∃ n os, w' = grow (putRow (Value.int .i64) (Sort.ahead w n) blk off (zs.mergeSort fun x y => decide (x ≤ y)).toArray) os := Any.slices_Sort_int Try.lays189 blk off cap zs w hH hblk hsz
open Go.RowKit Go.Sort in
/-- .. and plain. (LAID: no walk: one application.) -/
theorem Try.slices_Sort_int_none (p : Option Addr) (cap : Nat) (w : World) :
    Calls Try.prog 36 #[.slice p 0 cap] w fun e w' => e = .returned (.tuple #[]) ∧ w' = w := Any.slices_Sort_int_none Try.lays189 p cap w
end Go.Proofs
