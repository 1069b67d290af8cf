/-
  DERIVED: THE SHELF's CONTRACTS AT THIS DUMP, IN PLAIN WORDS (tools/lay-plain.mjs out of 'YbafShelf.lean', which tools/lay-shelf.mjs wrote): THE SAME DECLARATIONS UNDER THE SAME NAMES: 'import', 'namespace', 'open', 'def', 'theorem' AND NOTHING ELSE: no command of the shelf's: FOR A HAND-IN. Each laying: the table of numbers ('.._ren') and one theorem, a field a fact of the dump's own or the kernel's comparison; each contract: ONE APPLICATION.
-/
import Derived.Shelf.Sort.Plain
import Derived.Shelf.Slices.Equal
import Derived.Shelf.Slices.Clone
import Derived.Shelf.Slices.CompactS
import Derived.Shelf.Slices.In.SortNone
import Derived.Test.YbulkbzwoFmtProg
namespace Go.Proofs
open Go.Shelf
def Ybaf.lays190_ren : Go.Shelf.Ren := ⟨fun | 190 => 6 | 125 => 11 | 258 => 10 | 128 => 23 | 129 => 24 | 302 => 14 | 303 => 15 | 304 => 16 | 305 => 17 | 306 => 18 | 307 => 19 | 308 => 20 | 309 => 21 | 310 => 22 | 333 => 30 | 329 => 31 | 330 => 32 | 334 => 33 | 335 => 34 | 336 => 35 | 344 => 36 | n => n, fun | 31 => 22 | 9 => 9 | 3 => 3 | 46 => 36 | 0 => 0 | 51 => 48 | 53 => 50 | 4 => 4 | 183 => 41 | 182 => 40 | 131 => 45 | 5 => 5 | 218 => 57 | 222 => 61 | 228 => 67 | 229 => 68 | n => n, fun | n => n⟩
theorem Ybaf.lays190 : Go.Proofs.Lays.n190 Ybaf.prog Ybaf.lays190_ren := {
  mixed := by kernel_rfl
  f125 := Ybaf.func11.trans (congrArg some (by kernel_rfl))
  f128 := Ybaf.func23.trans (congrArg some (by kernel_rfl))
  f129 := Ybaf.func24.trans (congrArg some (by kernel_rfl))
  f190 := Ybaf.func6.trans (congrArg some (by kernel_rfl))
  f258 := Ybaf.func10.trans (congrArg some (by kernel_rfl))
  f302 := Ybaf.func14.trans (congrArg some (by kernel_rfl))
  f303 := Ybaf.func15.trans (congrArg some (by kernel_rfl))
  f304 := Ybaf.func16.trans (congrArg some (by kernel_rfl))
  f305 := Ybaf.func17.trans (congrArg some (by kernel_rfl))
  f306 := Ybaf.func18.trans (congrArg some (by kernel_rfl))
  f307 := Ybaf.func19.trans (congrArg some (by kernel_rfl))
  f308 := Ybaf.func20.trans (congrArg some (by kernel_rfl))
  f309 := Ybaf.func21.trans (congrArg some (by kernel_rfl))
  f310 := Ybaf.func22.trans (congrArg some (by kernel_rfl))
  f329 := Ybaf.func31.trans (congrArg some (by kernel_rfl))
  f330 := Ybaf.func32.trans (congrArg some (by kernel_rfl))
  f333 := Ybaf.func30.trans (congrArg some (by kernel_rfl))
  f334 := Ybaf.func33.trans (congrArg some (by kernel_rfl))
  f335 := Ybaf.func34.trans (congrArg some (by kernel_rfl))
  f336 := Ybaf.func35.trans (congrArg some (by kernel_rfl))
  f344 := Ybaf.func36.trans (congrArg some (by kernel_rfl))
  t0 := Ybaf.underlying0
  a0 := Ybaf.isAgg0
  z0 := Ybaf.sizeOf0
  v0 := Ybaf.zeroValue0
  t3 := Ybaf.underlying3
  a3 := Ybaf.isAgg3
  z3 := Ybaf.sizeOf3
  v3 := Ybaf.zeroValue3
  t4 := Ybaf.underlying4
  a4 := Ybaf.isAgg4
  z4 := Ybaf.sizeOf4
  v4 := Ybaf.zeroValue4
  t5 := Ybaf.underlying5
  a5 := Ybaf.isAgg5
  z5 := Ybaf.sizeOf5
  v5 := Ybaf.zeroValue5
  t9 := Ybaf.underlying9
  a9 := Ybaf.isAgg9
  z9 := Ybaf.sizeOf9
  v9 := Ybaf.zeroValue9
  t31 := Ybaf.underlying22
  a31 := Ybaf.isAgg22
  z31 := Ybaf.sizeOf22
  v31 := Ybaf.zeroValue22
  t46 := Ybaf.underlying36
  a46 := Ybaf.isAgg36
  z46 := Ybaf.sizeOf36
  v46 := Ybaf.zeroValue36
  t51 := Ybaf.underlying48
  a51 := Ybaf.isAgg48
  z51 := Ybaf.sizeOf48
  v51 := Ybaf.zeroValue48
  t53 := Ybaf.underlying50
  a53 := Ybaf.isAgg50
  z53 := Ybaf.sizeOf50
  v53 := Ybaf.zeroValue50
  t131 := Ybaf.underlying45
  a131 := Ybaf.isAgg45
  z131 := Ybaf.sizeOf45
  v131 := Ybaf.zeroValue45
  t182 := Ybaf.underlying40
  a182 := Ybaf.isAgg40
  z182 := Ybaf.sizeOf40
  v182 := Ybaf.zeroValue40
  t183 := Ybaf.underlying41
  a183 := Ybaf.isAgg41
  z183 := Ybaf.sizeOf41
  v183 := Ybaf.zeroValue41
  t218 := Ybaf.underlying57
  a218 := Ybaf.isAgg57
  z218 := Ybaf.sizeOf57
  v218 := Ybaf.zeroValue57
  t222 := Ybaf.underlying61
  a222 := Ybaf.isAgg61
  z222 := Ybaf.sizeOf61
  v222 := Ybaf.zeroValue61
  t228 := Ybaf.underlying67
  a228 := Ybaf.isAgg67
  z228 := Ybaf.sizeOf67
  v228 := Ybaf.zeroValue67
  t229 := Ybaf.underlying68
  a229 := Ybaf.isAgg68
  z229 := Ybaf.sizeOf68
  v229 := Ybaf.zeroValue68 }
open Go.Sort Go.RowKit in
theorem Ybaf.slices_Sort_string (blk off cap : Nat) (ss : List (List UInt8)) (w : World) (hH : Holds encStr w blk off ss.toArray) (hblk : blk < w.heap.size) (hsz : ss.length < 4611686018427387904) :
    Calls Ybaf.prog 6 #[.slice (some ⟨blk, off, none⟩) ss.length cap] w fun e w' =>
      e = .returned (.tuple #[]) ∧ ∃ n os, w' = grow (putRow encStr (Sort.ahead w n) blk off (ss.mergeSort fun x y => decide (x ≤ y)).toArray) os := Any.slices_Sort_string Ybaf.lays190 blk off cap ss w hH hblk hsz
def Ybaf.lays193_ren : Go.Shelf.Ren := ⟨fun | 193 => 9 | n => n, fun | 31 => 22 | 9 => 9 | 4 => 4 | 3 => 3 | 0 => 0 | n => n, fun | n => n⟩
theorem Ybaf.lays193 : Go.Proofs.Lays.n193 Ybaf.prog Ybaf.lays193_ren := {
  mixed := by kernel_rfl
  f193 := Ybaf.func9.trans (congrArg some (by kernel_rfl))
  t0 := Ybaf.underlying0
  a0 := Ybaf.isAgg0
  z0 := Ybaf.sizeOf0
  v0 := Ybaf.zeroValue0
  t3 := Ybaf.underlying3
  a3 := Ybaf.isAgg3
  z3 := Ybaf.sizeOf3
  v3 := Ybaf.zeroValue3
  t4 := Ybaf.underlying4
  a4 := Ybaf.isAgg4
  z4 := Ybaf.sizeOf4
  v4 := Ybaf.zeroValue4
  t9 := Ybaf.underlying9
  a9 := Ybaf.isAgg9
  z9 := Ybaf.sizeOf9
  v9 := Ybaf.zeroValue9
  t31 := Ybaf.underlying22
  a31 := Ybaf.isAgg22
  z31 := Ybaf.sizeOf22
  v31 := Ybaf.zeroValue22 }
open Go.RowKit Go.Lib in
/-- slices.Equal at []string: "Equal reports whether two slices are equal: the same length and all elements equal. If the lengths are different, Equal returns false. Otherwise, the elements are compared in increasing index order, and the comparison stops at the first unequal pair. Empty and nil slices are considered equal.": IT RETURNS WHETHER THE TWO LISTS OF ELEMENTS ARE ONE; the world is as it was but for the count of draws (the test 's1[i] != s2[i]' has two reads, whose order the model draws, once a round). 'xs', 'ys': what the cells behind the two addresses hold (the spare capacity too, if you have it); 'xs.take n', 'ys.take m': the elements. THE TWO SLICES MAY OVERLAP. (LAID: no walk: one application.) -/
theorem Ybaf.slices_Equal_string (b1 o1 n c b2 o2 m d : Nat) (xs ys : List ByteArray) (w : World) (hx : n ≤ xs.length) (hy : m ≤ ys.length) (hbig : n ≤ 9223372036854775807) (hbig2 : m ≤ 9223372036854775807) (hc1 : ∀ j, j < xs.length → w.cell? ⟨b1, o1 + j, none⟩ = some (.string (xs.getD j ByteArray.empty))) (hc2 : ∀ j, j < ys.length → w.cell? ⟨b2, o2 + j, none⟩ = some (.string (ys.getD j ByteArray.empty))) :
    Calls Ybaf.prog 9 #[.slice (some ⟨b1, o1, none⟩) n c, .slice (some ⟨b2, o2, none⟩) m d] w fun e w' => e = .returned (.bool (decide (xs.take n = ys.take m))) ∧ ∃ q, w' = w.drewN q := Any.slices_Equal_string Ybaf.lays193 b1 o1 n c b2 o2 m d xs ys w hx hy hbig hbig2 hc1 hc2
open Go.RowKit Go.Lib in
/-- The same where the first is of length 0 (a nil one too): no cell is asked for. (LAID: no walk: one application.) -/
theorem Ybaf.slices_Equal_string_empty (a1 a2 : Option Addr) (c m d : Nat) (w : World) (hbig2 : m ≤ 9223372036854775807) :
    Calls Ybaf.prog 9 #[.slice a1 0 c, .slice a2 m d] w fun e w' => e = .returned (.bool (decide (m = 0))) ∧ w' = w := Any.slices_Equal_string_empty Ybaf.lays193 a1 a2 c m d w hbig2
def Ybaf.laysNm216_ren : Go.Shelf.Ren := ⟨fun | 16 => 5 | n => n, fun | 24 => 22 | 9 => 9 | 4 => 4 | n => n, fun | n => n⟩
theorem Ybaf.laysNm216 : Go.Proofs.Lays2.n16 Ybaf.prog Ybaf.laysNm216_ren := {
  mixed := by kernel_rfl
  f16 := Ybaf.func5.trans (congrArg some (by kernel_rfl))
  t4 := Ybaf.underlying4
  a4 := Ybaf.isAgg4
  z4 := Ybaf.sizeOf4
  v4 := Ybaf.zeroValue4
  t9 := Ybaf.underlying9
  a9 := Ybaf.isAgg9
  z9 := Ybaf.sizeOf9
  v9 := Ybaf.zeroValue9
  t24 := Ybaf.underlying22
  a24 := Ybaf.isAgg22
  z24 := Ybaf.sizeOf22
  v24 := Ybaf.zeroValue22
  i9 := by kernel_rfl }
open Go.RowKit Go.Lib in
/-- slices.Clone at []string: "Clone returns a copy of the slice. The elements are copied using assignment, so this is a shallow clone. The result may have additional unused capacity. The result preserves the nilness of s.": OF A SLICE THAT IS NOT nil IT RETURNS A SLICE THAT IS NOT nil, OF THE SAME ELEMENTS, IN MEMORY OF THE CALL's OWN: in the how-to's words (6f): 'w'.ownsRow B e 1 v' n cells': v' begins at the head of a row among the blocks from B on (B: the heap's size at the call), not frozen, whose first cells are the elements · 'Below B w w'': below B all is as it was. The capacity is whatever the run-time gives. 'zs': what the cells behind the slice's address hold; 'zs.take n': its elements. (LAID: no walk: one application.) -/
theorem Ybaf.slices_Clone_string (b off n c : Nat) (zs : List ByteArray) (w : World) (hz : n ≤ zs.length) (hbig : n * 16 ≤ 140737488355328) (hc : ∀ j, j < zs.length → w.cell? ⟨b, off + j, none⟩ = some (.string (zs.getD j ByteArray.empty))) :
    Calls Ybaf.prog 5 #[.slice (some ⟨b, off, none⟩) n c] w fun e w' => ∃ v', e = .returned v' ∧ w'.ownsRow w.heap.size 9 1 v' n ((zs.take n).map (Value.string)) ∧ v' ≠ .slice none 0 0 ∧ Below w.heap.size w w' := Any.slices_Clone_string Ybaf.laysNm216 b off n c zs w hz hbig hc
open Go.RowKit Go.Lib in
/-- The same at nil: nil comes back; the world is as it was. (LAID: no walk: one application.) -/
theorem Ybaf.slices_Clone_string_nil (n c : Nat) (w : World) :
    Calls Ybaf.prog 5 #[.slice none n c] w fun e w' => e = .returned (.slice none 0 0) ∧ w' = w := Any.slices_Clone_string_nil Ybaf.laysNm216 n c w
open Go.RowKit Go.Lib in
/-- The same at a slice of length 0 that is not nil, WHATEVER ITS ADDRESS (no cell is asked for): a slice that is not nil and owns nothing comes back. (LAID: no walk: one application.) -/
theorem Ybaf.slices_Clone_string_zero (a : Addr) (c : Nat) (w : World) :
    Calls Ybaf.prog 5 #[.slice (some a) 0 c] w fun e w' => ∃ v', e = .returned v' ∧ w'.ownsRow w.heap.size 9 1 v' 0 [] ∧ v' ≠ .slice none 0 0 ∧ Below w.heap.size w w' := Any.slices_Clone_string_zero Ybaf.laysNm216 a c w
def Ybaf.lays194_ren : Go.Shelf.Ren := ⟨fun | 194 => 7 | n => n, fun | 31 => 22 | 9 => 9 | 3 => 3 | 4 => 4 | 0 => 0 | n => n, fun | n => n⟩
theorem Ybaf.lays194 : Go.Proofs.Lays.n194 Ybaf.prog Ybaf.lays194_ren := {
  mixed := by kernel_rfl
  f194 := Ybaf.func7.trans (congrArg some (by kernel_rfl))
  t0 := Ybaf.underlying0
  a0 := Ybaf.isAgg0
  z0 := Ybaf.sizeOf0
  v0 := Ybaf.zeroValue0
  t3 := Ybaf.underlying3
  a3 := Ybaf.isAgg3
  z3 := Ybaf.sizeOf3
  v3 := Ybaf.zeroValue3
  t4 := Ybaf.underlying4
  a4 := Ybaf.isAgg4
  z4 := Ybaf.sizeOf4
  v4 := Ybaf.zeroValue4
  t9 := Ybaf.underlying9
  a9 := Ybaf.isAgg9
  z9 := Ybaf.sizeOf9
  v9 := Ybaf.zeroValue9
  t31 := Ybaf.underlying22
  a31 := Ybaf.isAgg22
  z31 := Ybaf.sizeOf22
  v31 := Ybaf.zeroValue22 }
open Go.RowKit Go.Lib Go.Sort in
/-- slices.Compact at []string: "Compact replaces consecutive runs of equal elements with a single copy. This is like the uniq command found on Unix. Compact modifies the contents of the slice s and returns the modified slice, which may have a smaller length. Compact zeroes the elements between the new length and the original length. The result preserves the nilness of s.": IT RETURNS THE SLICE CUT TO 'Lib.compact zs'; ITS CELLS HOLD 'Lib.compact zs', THEN ZERO VALUES up to the old length; all else is as it was, but for the count of draws. IN THE WORDS OF slices.Sort's CONTRACT ('Holds', 'putRow'): so the everyday 'slices.Sort(xs); xs = slices.Compact(xs)' goes from the one contract to the other. It asks 'zs.length ≤ cap' (every slice's: the reslicing 's[:k]' looks at it). Length 0, nil: '.._empty'. (LAID: no walk: one application.) -/
theorem Ybaf.slices_Compact_string (blk off cap : Nat) (zs : List (List UInt8)) (w : World) (hH : Holds encStr w blk off zs.toArray) (hsz : zs.length ≤ 9223372036854775807) (hcap : zs.length ≤ cap) :
    Calls Ybaf.prog 7 #[.slice (some ⟨blk, off, none⟩) zs.length cap] w fun e w' => e = .returned (.slice (some ⟨blk, off, none⟩) (Lib.compact zs).length cap) ∧ ∃ q, w' = putRow encStr (Sort.ahead w q) blk off (Lib.compact zs ++ List.replicate (zs.length - (Lib.compact zs).length) []).toArray := Any.slices_Compact_string Ybaf.lays194 blk off cap zs w hH hsz hcap
open Go.RowKit Go.Lib Go.Sort in
/-- The same at a slice of length 0, a nil one too: it comes back as it is. (LAID: no walk: one application.) -/
theorem Ybaf.slices_Compact_string_empty (a : Option Addr) (cap : Nat) (w : World) :
    Calls Ybaf.prog 7 #[.slice a 0 cap] w fun e w' => e = .returned (.slice a 0 cap) ∧ w' = w := Any.slices_Compact_string_empty Ybaf.lays194 a cap w
open Go.RowKit Go.Sort in
/-- .. and plain. (LAID: no walk: one application.) -/
theorem Ybaf.slices_Sort_string_none (p : Option Addr) (cap : Nat) (w : World) :
    Calls Ybaf.prog 6 #[.slice p 0 cap] w fun e w' => e = .returned (.tuple #[]) ∧ w' = w := Any.slices_Sort_string_none Ybaf.lays190 p cap w
end Go.Proofs
