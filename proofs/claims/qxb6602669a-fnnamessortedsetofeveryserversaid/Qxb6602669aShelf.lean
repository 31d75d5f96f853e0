/-
  DERIVED: THE SHELF's CONTRACTS AT THIS DUMP, IN PLAIN WORDS (tools/lay-plain.mjs out of 'Qxb6602669aShelf.lean', which tools/lay-shelf.mjs wrote): THE SAME DECLARATIONS UNDER THE SAME NAMES: 'import', 'namespace', 'open', 'def', 'theorem' AND NOTHING ELSE: no command of the shelf's: FOR A HAND-IN. Each laying: the table of numbers ('.._ren') and one theorem, a field a fact of the dump's own or the kernel's comparison; each contract: ONE APPLICATION.
-/
import Derived.Shelf.Sort.Plain
import Derived.Shelf.Slices.CompactS
import Derived.Shelf.Slices.In.SortNone
import Derived.Test.Qxb6602669aProg
namespace Go.Proofs
open Go.Shelf
def Try.lays190_ren : Go.Shelf.Ren := ⟨fun | 190 => 23 | 125 => 27 | 258 => 26 | 128 => 37 | 129 => 38 | 302 => 28 | 303 => 29 | 304 => 30 | 305 => 31 | 306 => 32 | 307 => 33 | 308 => 34 | 309 => 35 | 310 => 36 | 333 => 39 | 329 => 40 | 330 => 41 | 334 => 42 | 335 => 43 | 336 => 44 | 344 => 45 | n => n, fun | 31 => 48 | 9 => 9 | 3 => 3 | 46 => 81 | 0 => 0 | 51 => 91 | 53 => 93 | 4 => 4 | 183 => 84 | 182 => 83 | 131 => 39 | 5 => 5 | 218 => 94 | 222 => 98 | 228 => 101 | 229 => 102 | n => n, fun | n => n⟩
theorem Try.lays190 : Go.Proofs.Lays.n190 Try.prog Try.lays190_ren := {
  mixed := by kernel_rfl
  f125 := Try.func27.trans (congrArg some (by kernel_rfl))
  f128 := Try.func37.trans (congrArg some (by kernel_rfl))
  f129 := Try.func38.trans (congrArg some (by kernel_rfl))
  f190 := Try.func23.trans (congrArg some (by kernel_rfl))
  f258 := Try.func26.trans (congrArg some (by kernel_rfl))
  f302 := Try.func28.trans (congrArg some (by kernel_rfl))
  f303 := Try.func29.trans (congrArg some (by kernel_rfl))
  f304 := Try.func30.trans (congrArg some (by kernel_rfl))
  f305 := Try.func31.trans (congrArg some (by kernel_rfl))
  f306 := Try.func32.trans (congrArg some (by kernel_rfl))
  f307 := Try.func33.trans (congrArg some (by kernel_rfl))
  f308 := Try.func34.trans (congrArg some (by kernel_rfl))
  f309 := Try.func35.trans (congrArg some (by kernel_rfl))
  f310 := Try.func36.trans (congrArg some (by kernel_rfl))
  f329 := Try.func40.trans (congrArg some (by kernel_rfl))
  f330 := Try.func41.trans (congrArg some (by kernel_rfl))
  f333 := Try.func39.trans (congrArg some (by kernel_rfl))
  f334 := Try.func42.trans (congrArg some (by kernel_rfl))
  f335 := Try.func43.trans (congrArg some (by kernel_rfl))
  f336 := Try.func44.trans (congrArg some (by kernel_rfl))
  f344 := Try.func45.trans (congrArg some (by kernel_rfl))
  t0 := Try.underlying0
  a0 := Try.isAgg0
  z0 := Try.sizeOf0
  v0 := Try.zeroValue0
  t3 := Try.underlying3
  a3 := Try.isAgg3
  z3 := Try.sizeOf3
  v3 := Try.zeroValue3
  t4 := Try.underlying4
  a4 := Try.isAgg4
  z4 := Try.sizeOf4
  v4 := Try.zeroValue4
  t5 := Try.underlying5
  a5 := Try.isAgg5
  z5 := Try.sizeOf5
  v5 := Try.zeroValue5
  t9 := Try.underlying9
  a9 := Try.isAgg9
  z9 := Try.sizeOf9
  v9 := Try.zeroValue9
  t31 := Try.underlying48
  a31 := Try.isAgg48
  z31 := Try.sizeOf48
  v31 := Try.zeroValue48
  t46 := Try.underlying81
  a46 := Try.isAgg81
  z46 := Try.sizeOf81
  v46 := Try.zeroValue81
  t51 := Try.underlying91
  a51 := Try.isAgg91
  z51 := Try.sizeOf91
  v51 := Try.zeroValue91
  t53 := Try.underlying93
  a53 := Try.isAgg93
  z53 := Try.sizeOf93
  v53 := Try.zeroValue93
  t131 := Try.underlying39
  a131 := Try.isAgg39
  z131 := Try.sizeOf39
  v131 := Try.zeroValue39
  t182 := Try.underlying83
  a182 := Try.isAgg83
  z182 := Try.sizeOf83
  v182 := Try.zeroValue83
  t183 := Try.underlying84
  a183 := Try.isAgg84
  z183 := Try.sizeOf84
  v183 := Try.zeroValue84
  t218 := Try.underlying94
  a218 := Try.isAgg94
  z218 := Try.sizeOf94
  v218 := Try.zeroValue94
  t222 := Try.underlying98
  a222 := Try.isAgg98
  z222 := Try.sizeOf98
  v222 := Try.zeroValue98
  t228 := Try.underlying101
  a228 := Try.isAgg101
  z228 := Try.sizeOf101
  v228 := Try.zeroValue101
  t229 := Try.underlying102
  a229 := Try.isAgg102
  z229 := Try.sizeOf102
  v229 := Try.zeroValue102 }
open Go.Sort Go.RowKit in
theorem Try.slices_Sort_string (blk off cap : Nat) (ss : List (List UInt8)) (w : World) (hH : Holds encStr w blk off ss.toArray) (hblk : blk < w.heap.size) (hsz : ss.length < 4611686018427387904) :
    Calls Try.prog 23 #[.slice (some ⟨blk, off, none⟩) ss.length cap] w fun e w' =>
      e = .returned (.tuple #[]) ∧ ∃ n os, w' = grow (putRow encStr (Sort.ahead w n) blk off (ss.mergeSort fun x y => decide (x ≤ y)).toArray) os := Any.slices_Sort_string Try.lays190 blk off cap ss w hH hblk hsz
def Try.lays194_ren : Go.Shelf.Ren := ⟨fun | 194 => 24 | n => n, fun | 31 => 48 | 9 => 9 | 3 => 3 | 4 => 4 | 0 => 0 | n => n, fun | n => n⟩
theorem Try.lays194 : Go.Proofs.Lays.n194 Try.prog Try.lays194_ren := {
  mixed := by kernel_rfl
  f194 := Try.func24.trans (congrArg some (by kernel_rfl))
  t0 := Try.underlying0
  a0 := Try.isAgg0
  z0 := Try.sizeOf0
  v0 := Try.zeroValue0
  t3 := Try.underlying3
  a3 := Try.isAgg3
  z3 := Try.sizeOf3
  v3 := Try.zeroValue3
  t4 := Try.underlying4
  a4 := Try.isAgg4
  z4 := Try.sizeOf4
  v4 := Try.zeroValue4
  t9 := Try.underlying9
  a9 := Try.isAgg9
  z9 := Try.sizeOf9
  v9 := Try.zeroValue9
  t31 := Try.underlying48
  a31 := Try.isAgg48
  z31 := Try.sizeOf48
  v31 := Try.zeroValue48 }
open Go.RowKit Go.Lib Go.Sort in
/-- slices.Compact at []string: "Compact replaces consecutive runs of equal elements with a single copy. This is like the uniq command found on Unix. Compact modifies the contents of the slice s and returns the modified slice, which may have a smaller length. Compact zeroes the elements between the new length and the original length. The result preserves the nilness of s.": IT RETURNS THE SLICE CUT TO 'Lib.compact zs'; ITS CELLS HOLD 'Lib.compact zs', THEN ZERO VALUES up to the old length; all else is as it was, but for the count of draws. IN THE WORDS OF slices.Sort's CONTRACT ('Holds', 'putRow'): so the everyday 'slices.Sort(xs); xs = slices.Compact(xs)' goes from the one contract to the other. It asks 'zs.length ≤ cap' (every slice's: the reslicing 's[:k]' looks at it). Length 0, nil: '.._empty'. (LAID: no walk: one application.) -/
theorem Try.slices_Compact_string (blk off cap : Nat) (zs : List (List UInt8)) (w : World) (hH : Holds encStr w blk off zs.toArray) (hsz : zs.length ≤ 9223372036854775807) (hcap : zs.length ≤ cap) :
    Calls Try.prog 24 #[.slice (some ⟨blk, off, none⟩) zs.length cap] w fun e w' => e = .returned (.slice (some ⟨blk, off, none⟩) (Lib.compact zs).length cap) ∧ ∃ q, w' = putRow encStr (Sort.ahead w q) blk off (Lib.compact zs ++ List.replicate (zs.length - (Lib.compact zs).length) []).toArray := Any.slices_Compact_string Try.lays194 blk off cap zs w hH hsz hcap
open Go.RowKit Go.Lib Go.Sort in
/-- The same at a slice of length 0, a nil one too: it comes back as it is. (LAID: no walk: one application.) -/
theorem Try.slices_Compact_string_empty (a : Option Addr) (cap : Nat) (w : World) :
    Calls Try.prog 24 #[.slice a 0 cap] w fun e w' => e = .returned (.slice a 0 cap) ∧ w' = w := Any.slices_Compact_string_empty Try.lays194 a cap w
open Go.RowKit Go.Sort in
/-- .. and plain. (LAID: no walk: one application.) -/
theorem Try.slices_Sort_string_none (p : Option Addr) (cap : Nat) (w : World) :
    Calls Try.prog 23 #[.slice p 0 cap] w fun e w' => e = .returned (.tuple #[]) ∧ w' = w := Any.slices_Sort_string_none Try.lays190 p cap w
end Go.Proofs
