/-
  DERIVED: THE SHELF's CONTRACTS AT THIS DUMP, IN PLAIN WORDS (tools/lay-plain.mjs out of 'TryShelf.lean', which tools/lay-shelf.mjs wrote): THE SAME DECLARATIONS UNDER THE SAME NAMES: 'import', 'namespace', 'open', 'def', 'theorem' AND NOTHING ELSE: no command of the shelf's: FOR A HAND-IN. Each laying: the table of numbers ('.._ren') and one theorem, a field a fact of the dump's own or the kernel's comparison; each contract: ONE APPLICATION.
-/
import Derived.Shelf.Sort.Plain
import Derived.Ground.Names2Prog
import Derived.Shelf.Slices.Clone
import Derived.Shelf.Slices.CompactS
import Derived.Shelf.Slices.In.SortNone
import Derived.Test.Qxb6632526aProg
namespace Go.Proofs
open Go.Shelf
def Try.lays190_ren : Go.Shelf.Ren := ⟨fun | 190 => 27 | 125 => 33 | 258 => 32 | 128 => 43 | 129 => 44 | 302 => 34 | 303 => 35 | 304 => 36 | 305 => 37 | 306 => 38 | 307 => 39 | 308 => 40 | 309 => 41 | 310 => 42 | 333 => 45 | 329 => 46 | 330 => 47 | 334 => 48 | 335 => 49 | 336 => 50 | 344 => 51 | n => n, fun | 31 => 33 | 9 => 9 | 3 => 3 | 46 => 75 | 0 => 0 | 51 => 85 | 53 => 87 | 4 => 4 | 183 => 78 | 182 => 77 | 131 => 51 | 5 => 5 | 218 => 88 | 222 => 92 | 228 => 94 | 229 => 95 | n => n, fun | n => n⟩
theorem Try.lays190 : Go.Proofs.Lays.n190 Try.prog Try.lays190_ren := {
  mixed := by kernel_rfl
  f125 := Try.func33.trans (congrArg some (by kernel_rfl))
  f128 := Try.func43.trans (congrArg some (by kernel_rfl))
  f129 := Try.func44.trans (congrArg some (by kernel_rfl))
  f190 := Try.func27.trans (congrArg some (by kernel_rfl))
  f258 := Try.func32.trans (congrArg some (by kernel_rfl))
  f302 := Try.func34.trans (congrArg some (by kernel_rfl))
  f303 := Try.func35.trans (congrArg some (by kernel_rfl))
  f304 := Try.func36.trans (congrArg some (by kernel_rfl))
  f305 := Try.func37.trans (congrArg some (by kernel_rfl))
  f306 := Try.func38.trans (congrArg some (by kernel_rfl))
  f307 := Try.func39.trans (congrArg some (by kernel_rfl))
  f308 := Try.func40.trans (congrArg some (by kernel_rfl))
  f309 := Try.func41.trans (congrArg some (by kernel_rfl))
  f310 := Try.func42.trans (congrArg some (by kernel_rfl))
  f329 := Try.func46.trans (congrArg some (by kernel_rfl))
  f330 := Try.func47.trans (congrArg some (by kernel_rfl))
  f333 := Try.func45.trans (congrArg some (by kernel_rfl))
  f334 := Try.func48.trans (congrArg some (by kernel_rfl))
  f335 := Try.func49.trans (congrArg some (by kernel_rfl))
  f336 := Try.func50.trans (congrArg some (by kernel_rfl))
  f344 := Try.func51.trans (congrArg some (by kernel_rfl))
  t0 := Try.underlying0
  a0 := Try.isAgg0
  z0 := Try.sizeOf0
  v0 := Try.zeroValue0
  t3 := Try.underlying3
  a3 := Try.isAgg3
  z3 := Try.sizeOf3
  v3 := Try.zeroValue3
  t4 := Try.underlying4
  a4 := Try.isAgg4
  z4 := Try.sizeOf4
  v4 := Try.zeroValue4
  t5 := Try.underlying5
  a5 := Try.isAgg5
  z5 := Try.sizeOf5
  v5 := Try.zeroValue5
  t9 := Try.underlying9
  a9 := Try.isAgg9
  z9 := Try.sizeOf9
  v9 := Try.zeroValue9
  t31 := Try.underlying33
  a31 := Try.isAgg33
  z31 := Try.sizeOf33
  v31 := Try.zeroValue33
  t46 := Try.underlying75
  a46 := Try.isAgg75
  z46 := Try.sizeOf75
  v46 := Try.zeroValue75
  t51 := Try.underlying85
  a51 := Try.isAgg85
  z51 := Try.sizeOf85
  v51 := Try.zeroValue85
  t53 := Try.underlying87
  a53 := Try.isAgg87
  z53 := Try.sizeOf87
  v53 := Try.zeroValue87
  t131 := Try.underlying51
  a131 := Try.isAgg51
  z131 := Try.sizeOf51
  v131 := Try.zeroValue51
  t182 := Try.underlying77
  a182 := Try.isAgg77
  z182 := Try.sizeOf77
  v182 := Try.zeroValue77
  t183 := Try.underlying78
  a183 := Try.isAgg78
  z183 := Try.sizeOf78
  v183 := Try.zeroValue78
  t218 := Try.underlying88
  a218 := Try.isAgg88
  z218 := Try.sizeOf88
  v218 := Try.zeroValue88
  t222 := Try.underlying92
  a222 := Try.isAgg92
  z222 := Try.sizeOf92
  v222 := Try.zeroValue92
  t228 := Try.underlying94
  a228 := Try.isAgg94
  z228 := Try.sizeOf94
  v228 := Try.zeroValue94
  t229 := Try.underlying95
  a229 := Try.isAgg95
  z229 := Try.sizeOf95
  v229 := Try.zeroValue95 }
open Go.Sort Go.RowKit in
theorem Try.slices_Sort_string (blk off cap : Nat) (ss : List (List UInt8)) (w : World) (hH : Holds encStr w blk off ss.toArray) (hblk : blk < w.heap.size) (hsz : ss.length < 4611686018427387904) :
    Calls Try.prog 27 #[.slice (some ⟨blk, off, none⟩) ss.length cap] w fun e w' =>
      e = .returned (.tuple #[]) ∧ ∃ n os, w' = grow (putRow encStr (Sort.ahead w n) blk off (ss.mergeSort fun x y => decide (x ≤ y)).toArray) os := Any.slices_Sort_string Try.lays190 blk off cap ss w hH hblk hsz
def Try.laysNm216_ren : Go.Shelf.Ren := ⟨fun | 16 => 25 | n => n, fun | 24 => 33 | 9 => 9 | 4 => 4 | n => n, fun | n => n⟩
theorem Try.laysNm216 : Go.Proofs.Lays2.n16 Try.prog Try.laysNm216_ren := {
  mixed := by kernel_rfl
  f16 := Try.func25.trans (congrArg some (by kernel_rfl))
  t4 := Try.underlying4
  a4 := Try.isAgg4
  z4 := Try.sizeOf4
  v4 := Try.zeroValue4
  t9 := Try.underlying9
  a9 := Try.isAgg9
  z9 := Try.sizeOf9
  v9 := Try.zeroValue9
  t24 := Try.underlying33
  a24 := Try.isAgg33
  z24 := Try.sizeOf33
  v24 := Try.zeroValue33
  i9 := by kernel_rfl }
open Go.RowKit Go.Lib in
/-- slices.Clone at []string (laid: one application) -/
theorem Try.slices_Clone_string (b off n c : Nat) (zs : List ByteArray) (w : World) (hz : n ≤ zs.length) (hbig : n * 16 ≤ 140737488355328) (hc : ∀ j, j < zs.length → w.cell? ⟨b, off + j, none⟩ = some (.string (zs.getD j ByteArray.empty))) :
    Calls Try.prog 25 #[.slice (some ⟨b, off, none⟩) n c] w fun e w' => ∃ v', e = .returned v' ∧ w'.ownsRow w.heap.size 9 1 v' n ((zs.take n).map (Value.string)) ∧ v' ≠ .slice none 0 0 ∧ Below w.heap.size w w' := Any.slices_Clone_string Try.laysNm216 b off n c zs w hz hbig hc
open Go.RowKit Go.Lib in
/-- The same at nil: nil comes back; the world is as it was. (LAID: no walk: one application.) -/
theorem Try.slices_Clone_string_nil (n c : Nat) (w : World) :
    Calls Try.prog 25 #[.slice none n c] w fun e w' => e = .returned (.slice none 0 0) ∧ w' = w := Any.slices_Clone_string_nil Try.laysNm216 n c w
open Go.RowKit Go.Lib in
/-- The same at a slice of length 0 that is not nil, WHATEVER ITS ADDRESS (no cell is asked for): a slice that is not nil and owns nothing comes back. (LAID: no walk: one application.) -/
theorem Try.slices_Clone_string_zero (a : Addr) (c : Nat) (w : World) :
    Calls Try.prog 25 #[.slice (some a) 0 c] w fun e w' => ∃ v', e = .returned v' ∧ w'.ownsRow w.heap.size 9 1 v' 0 [] ∧ v' ≠ .slice none 0 0 ∧ Below w.heap.size w w' := Any.slices_Clone_string_zero Try.laysNm216 a c w
def Try.lays194_ren : Go.Shelf.Ren := ⟨fun | 194 => 28 | n => n, fun | 31 => 33 | 9 => 9 | 3 => 3 | 4 => 4 | 0 => 0 | n => n, fun | n => n⟩
theorem Try.lays194 : Go.Proofs.Lays.n194 Try.prog Try.lays194_ren := {
  mixed := by kernel_rfl
  f194 := Try.func28.trans (congrArg some (by kernel_rfl))
  t0 := Try.underlying0
  a0 := Try.isAgg0
  z0 := Try.sizeOf0
  v0 := Try.zeroValue0
  t3 := Try.underlying3
  a3 := Try.isAgg3
  z3 := Try.sizeOf3
  v3 := Try.zeroValue3
  t4 := Try.underlying4
  a4 := Try.isAgg4
  z4 := Try.sizeOf4
  v4 := Try.zeroValue4
  t9 := Try.underlying9
  a9 := Try.isAgg9
  z9 := Try.sizeOf9
  v9 := Try.zeroValue9
  t31 := Try.underlying33
  a31 := Try.isAgg33
  z31 := Try.sizeOf33
  v31 := Try.zeroValue33 }
open Go.RowKit Go.Lib Go.Sort in
/-- slices.Compact at []string (laid: one application) -/
theorem Try.slices_Compact_string (blk off cap : Nat) (zs : List (List UInt8)) (w : World) (hH : Holds encStr w blk off zs.toArray) (hsz : zs.length ≤ 9223372036854775807) (hcap : zs.length ≤ cap) :
    Calls Try.prog 28 #[.slice (some ⟨blk, off, none⟩) zs.length cap] w fun e w' => e = .returned (.slice (some ⟨blk, off, none⟩) (Lib.compact zs).length cap) ∧ ∃ q, w' = putRow encStr (Sort.ahead w q) blk off (Lib.compact zs ++ List.replicate (zs.length - (Lib.compact zs).length) []).toArray := Any.slices_Compact_string Try.lays194 blk off cap zs w hH hsz hcap
open Go.RowKit Go.Lib Go.Sort in
/-- The same at a slice of length 0, a nil one too: it comes back as it is. (LAID: no walk: one application.) -/
theorem Try.slices_Compact_string_empty (a : Option Addr) (cap : Nat) (w : World) :
    Calls Try.prog 28 #[.slice a 0 cap] w fun e w' => e = .returned (.slice a 0 cap) ∧ w' = w := Any.slices_Compact_string_empty Try.lays194 a cap w
open Go.RowKit Go.Sort in
/-- .. and plain. (LAID: no walk: one application.) -/
theorem Try.slices_Sort_string_none (p : Option Addr) (cap : Nat) (w : World) :
    Calls Try.prog 27 #[.slice p 0 cap] w fun e w' => e = .returned (.tuple #[]) ∧ w' = w := Any.slices_Sort_string_none Try.lays190 p cap w
end Go.Proofs
