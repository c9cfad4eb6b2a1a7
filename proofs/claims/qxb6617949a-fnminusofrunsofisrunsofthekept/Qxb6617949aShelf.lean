/-
  DERIVED: THE SHELF's CONTRACTS AT THIS DUMP, IN PLAIN WORDS (tools/lay-plain.mjs out of 'Qxb6617949aShelf0.lean', which tools/lay-shelf.mjs wrote): THE SAME DECLARATIONS UNDER THE SAME NAMES: 'import', 'namespace', 'open', 'def', 'theorem' AND NOTHING ELSE: no command of the shelf's: FOR A HAND-IN. Each laying: the table of numbers ('.._ren') and one theorem, a field a fact of the dump's own or the kernel's comparison; each contract: ONE APPLICATION.
-/
import Derived.Shelf.Sort.Plain
import Derived.Shelf.Slices.In.SortNone
import Derived.Test.Qxb6617949aProg
namespace Go.Proofs
open Go.Shelf
def Try.lays189_ren : Go.Shelf.Ren := ⟨fun | 189 => 29 | 125 => 31 | 257 => 30 | 128 => 41 | 129 => 42 | 294 => 32 | 295 => 33 | 296 => 34 | 297 => 35 | 298 => 36 | 299 => 37 | 216 => 38 | 300 => 39 | 301 => 40 | 328 => 43 | 329 => 44 | 330 => 45 | 331 => 46 | 332 => 47 | 215 => 48 | 343 => 49 | n => n, fun | 28 => 22 | 3 => 3 | 46 => 45 | 0 => 0 | 51 => 56 | 53 => 58 | 4 => 4 | 183 => 48 | 182 => 47 | 131 => 53 | 5 => 5 | 9 => 9 | 218 => 59 | 222 => 63 | 228 => 66 | 229 => 67 | n => n, fun | n => n⟩
theorem Try.lays189 : Go.Proofs.Lays.n189 Try.prog Try.lays189_ren := {
  mixed := by kernel_rfl
  f125 := Try.func31.trans (congrArg some (by kernel_rfl))
  f128 := Try.func41.trans (congrArg some (by kernel_rfl))
  f129 := Try.func42.trans (congrArg some (by kernel_rfl))
  f189 := Try.func29.trans (congrArg some (by kernel_rfl))
  f215 := Try.func48.trans (congrArg some (by kernel_rfl))
  f216 := Try.func38.trans (congrArg some (by kernel_rfl))
  f257 := Try.func30.trans (congrArg some (by kernel_rfl))
  f294 := Try.func32.trans (congrArg some (by kernel_rfl))
  f295 := Try.func33.trans (congrArg some (by kernel_rfl))
  f296 := Try.func34.trans (congrArg some (by kernel_rfl))
  f297 := Try.func35.trans (congrArg some (by kernel_rfl))
  f298 := Try.func36.trans (congrArg some (by kernel_rfl))
  f299 := Try.func37.trans (congrArg some (by kernel_rfl))
  f300 := Try.func39.trans (congrArg some (by kernel_rfl))
  f301 := Try.func40.trans (congrArg some (by kernel_rfl))
  f328 := Try.func43.trans (congrArg some (by kernel_rfl))
  f329 := Try.func44.trans (congrArg some (by kernel_rfl))
  f330 := Try.func45.trans (congrArg some (by kernel_rfl))
  f331 := Try.func46.trans (congrArg some (by kernel_rfl))
  f332 := Try.func47.trans (congrArg some (by kernel_rfl))
  f343 := Try.func49.trans (congrArg some (by kernel_rfl))
  t0 := Try.underlying0
  a0 := Try.isAgg0
  z0 := Try.sizeOf0
  v0 := Try.zeroValue0
  t3 := Try.underlying3
  a3 := Try.isAgg3
  z3 := Try.sizeOf3
  v3 := Try.zeroValue3
  t4 := Try.underlying4
  a4 := Try.isAgg4
  z4 := Try.sizeOf4
  v4 := Try.zeroValue4
  t5 := Try.underlying5
  a5 := Try.isAgg5
  z5 := Try.sizeOf5
  v5 := Try.zeroValue5
  t9 := Try.underlying9
  a9 := Try.isAgg9
  z9 := Try.sizeOf9
  v9 := Try.zeroValue9
  t28 := Try.underlying22
  a28 := Try.isAgg22
  z28 := Try.sizeOf22
  v28 := Try.zeroValue22
  t46 := Try.underlying45
  a46 := Try.isAgg45
  z46 := Try.sizeOf45
  v46 := Try.zeroValue45
  t51 := Try.underlying56
  a51 := Try.isAgg56
  z51 := Try.sizeOf56
  v51 := Try.zeroValue56
  t53 := Try.underlying58
  a53 := Try.isAgg58
  z53 := Try.sizeOf58
  v53 := Try.zeroValue58
  t131 := Try.underlying53
  a131 := Try.isAgg53
  z131 := Try.sizeOf53
  v131 := Try.zeroValue53
  t182 := Try.underlying47
  a182 := Try.isAgg47
  z182 := Try.sizeOf47
  v182 := Try.zeroValue47
  t183 := Try.underlying48
  a183 := Try.isAgg48
  z183 := Try.sizeOf48
  v183 := Try.zeroValue48
  t218 := Try.underlying59
  a218 := Try.isAgg59
  z218 := Try.sizeOf59
  v218 := Try.zeroValue59
  t222 := Try.underlying63
  a222 := Try.isAgg63
  z222 := Try.sizeOf63
  v222 := Try.zeroValue63
  t228 := Try.underlying66
  a228 := Try.isAgg66
  z228 := Try.sizeOf66
  v228 := Try.zeroValue66
  t229 := Try.underlying67
  a229 := Try.isAgg67
  z229 := Try.sizeOf67
  v229 := Try.zeroValue67 }
open Go.Sort Go.RowKit in
theorem Try.slices_Sort_int (blk off cap : Nat) (zs : List Int) (w : World) (hH : Holds (Value.int .i64) w blk off zs.toArray) (hblk : blk < w.heap.size) (hsz : zs.length < 4611686018427387904) :
    Calls Try.prog 29 #[.slice (some ⟨blk, off, none⟩) zs.length cap] w fun e w' =>
      e = .returned (.tuple #[]) ∧ ∃ n os, w' = grow (putRow (Value.int .i64) (Sort.ahead w n) blk off (zs.mergeSort fun x y => decide (x ≤ y)).toArray) os := Any.slices_Sort_int Try.lays189 blk off cap zs w hH hblk hsz
open Go.RowKit Go.Sort in
/-- .. and plain. (LAID: no walk: one application.) -/
theorem Try.slices_Sort_int_none (p : Option Addr) (cap : Nat) (w : World) :
    Calls Try.prog 29 #[.slice p 0 cap] w fun e w' => e = .returned (.tuple #[]) ∧ w' = w := Any.slices_Sort_int_none Try.lays189 p cap w
end Go.Proofs
