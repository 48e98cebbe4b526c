/-
  The contracts of the library functions on the road, laid at this dump by the kit's own tools (lay-shelf, lay-plain): plain text.
-/
import Derived.Shelf.Small.Wraps
import Derived.Shelf.Sort.Plain
import Derived.Shelf.Strings.Prefix
import Derived.Shelf.Slices.CompactS
import Derived.Shelf.Slices.In.SortNone
import Derived.Shelf.Spec.SearchS
import Derived.Shelf.Spec.SlicesGrow
import Derived.Test.Qxb6617078aProg
namespace Go.Proofs
open Go.Shelf
def Try.lays211_ren : Go.Shelf.Ren := ⟨fun | 211 => 34 | 207 => 48 | n => n, fun | 9 => 9 | 4 => 4 | 3 => 3 | n => n, fun | n => n⟩
theorem Try.lays211 : Go.Proofs.Lays.n211 Try.prog Try.lays211_ren := {
  mixed := by kernel_rfl
  f207 := Try.func48.trans (congrArg some (by kernel_rfl))
  f211 := Try.func34.trans (congrArg some (by kernel_rfl))
  t3 := Try.underlying3
  a3 := Try.isAgg3
  z3 := Try.sizeOf3
  v3 := Try.zeroValue3
  t4 := Try.underlying4
  a4 := Try.isAgg4
  z4 := Try.sizeOf4
  v4 := Try.zeroValue4
  t9 := Try.underlying9
  a9 := Try.isAgg9
  z9 := Try.sizeOf9
  v9 := Try.zeroValue9 }
open Go.RowKit in
/-- internal/stringslite.CutSuffix (what strings.CutSuffix calls). (LAID: no walk: one application.) -/
theorem Try.stringslite_CutSuffix (s p : ByteArray) (w : World) (hs : s.size ≤ 9223372036854775807) :
    Calls Try.prog 34 #[.string s, .string p] w fun e w' => e = .returned (.tuple #[.string ⟨(Lib.trimSuffix s.data.toList p.data.toList).toArray⟩, .bool (Lib.hasSuffix s.data.toList p.data.toList)]) ∧ w' = w := Any.stringslite_CutSuffix Try.lays211 s p w hs
def Try.lays104_ren : Go.Shelf.Ren := ⟨fun | 104 => 27 | 211 => 34 | 207 => 48 | n => n, fun | 9 => 9 | 4 => 4 | 24 => 54 | 3 => 3 | n => n, fun | n => n⟩
theorem Try.lays104 : Go.Proofs.Lays.n104 Try.prog Try.lays104_ren := {
  mixed := by kernel_rfl
  f104 := Try.func27.trans (congrArg some (by kernel_rfl))
  f207 := Try.func48.trans (congrArg some (by kernel_rfl))
  f211 := Try.func34.trans (congrArg some (by kernel_rfl))
  t3 := Try.underlying3
  a3 := Try.isAgg3
  z3 := Try.sizeOf3
  v3 := Try.zeroValue3
  t4 := Try.underlying4
  a4 := Try.isAgg4
  z4 := Try.sizeOf4
  v4 := Try.zeroValue4
  t9 := Try.underlying9
  a9 := Try.isAgg9
  z9 := Try.sizeOf9
  v9 := Try.zeroValue9
  t24 := Try.underlying54
  a24 := Try.isAgg54
  z24 := Try.sizeOf54
  v24 := Try.zeroValue54 }
open Go.RowKit in
/-- strings.CutSuffix: "CutSuffix returns s without the provided ending suffix string and reports whether it found the suffix. If s doesn't end with suffix, CutSuffix returns s, false. If suffix is the empty string, CutSuffix returns s, true.": IT RETURNS '(Lib.trimSuffix s p, Lib.hasSuffix s p)'; the world is as it was. (LAID: no walk: one application.) -/
theorem Try.strings_CutSuffix (s p : ByteArray) (w : World) (hs : s.size ≤ 9223372036854775807) :
    Calls Try.prog 27 #[.string s, .string p] w fun e w' => e = .returned (.tuple #[.string ⟨(Lib.trimSuffix s.data.toList p.data.toList).toArray⟩, .bool (Lib.hasSuffix s.data.toList p.data.toList)]) ∧ w' = w := Any.strings_CutSuffix Try.lays104 s p w hs
def Try.lays190_ren : Go.Shelf.Ren := ⟨fun | 190 => 24 | 125 => 33 | 258 => 32 | 128 => 46 | 129 => 47 | 302 => 38 | 303 => 39 | 304 => 40 | 305 => 41 | 306 => 42 | 307 => 43 | 308 => 36 | 309 => 44 | 310 => 45 | 333 => 50 | 329 => 51 | 330 => 52 | 334 => 53 | 335 => 54 | 336 => 49 | 344 => 55 | n => n, fun | 31 => 22 | 9 => 9 | 3 => 3 | 46 => 62 | 0 => 0 | 51 => 71 | 53 => 73 | 4 => 4 | 183 => 65 | 182 => 64 | 131 => 56 | 5 => 5 | 218 => 74 | 222 => 78 | 228 => 80 | 229 => 81 | n => n, fun | n => n⟩
theorem Try.lays190 : Go.Proofs.Lays.n190 Try.prog Try.lays190_ren := {
  mixed := by kernel_rfl
  f125 := Try.func33.trans (congrArg some (by kernel_rfl))
  f128 := Try.func46.trans (congrArg some (by kernel_rfl))
  f129 := Try.func47.trans (congrArg some (by kernel_rfl))
  f190 := Try.func24.trans (congrArg some (by kernel_rfl))
  f258 := Try.func32.trans (congrArg some (by kernel_rfl))
  f302 := Try.func38.trans (congrArg some (by kernel_rfl))
  f303 := Try.func39.trans (congrArg some (by kernel_rfl))
  f304 := Try.func40.trans (congrArg some (by kernel_rfl))
  f305 := Try.func41.trans (congrArg some (by kernel_rfl))
  f306 := Try.func42.trans (congrArg some (by kernel_rfl))
  f307 := Try.func43.trans (congrArg some (by kernel_rfl))
  f308 := Try.func36.trans (congrArg some (by kernel_rfl))
  f309 := Try.func44.trans (congrArg some (by kernel_rfl))
  f310 := Try.func45.trans (congrArg some (by kernel_rfl))
  f329 := Try.func51.trans (congrArg some (by kernel_rfl))
  f330 := Try.func52.trans (congrArg some (by kernel_rfl))
  f333 := Try.func50.trans (congrArg some (by kernel_rfl))
  f334 := Try.func53.trans (congrArg some (by kernel_rfl))
  f335 := Try.func54.trans (congrArg some (by kernel_rfl))
  f336 := Try.func49.trans (congrArg some (by kernel_rfl))
  f344 := Try.func55.trans (congrArg some (by kernel_rfl))
  t0 := Try.underlying0
  a0 := Try.isAgg0
  z0 := Try.sizeOf0
  v0 := Try.zeroValue0
  t3 := Try.underlying3
  a3 := Try.isAgg3
  z3 := Try.sizeOf3
  v3 := Try.zeroValue3
  t4 := Try.underlying4
  a4 := Try.isAgg4
  z4 := Try.sizeOf4
  v4 := Try.zeroValue4
  t5 := Try.underlying5
  a5 := Try.isAgg5
  z5 := Try.sizeOf5
  v5 := Try.zeroValue5
  t9 := Try.underlying9
  a9 := Try.isAgg9
  z9 := Try.sizeOf9
  v9 := Try.zeroValue9
  t31 := Try.underlying22
  a31 := Try.isAgg22
  z31 := Try.sizeOf22
  v31 := Try.zeroValue22
  t46 := Try.underlying62
  a46 := Try.isAgg62
  z46 := Try.sizeOf62
  v46 := Try.zeroValue62
  t51 := Try.underlying71
  a51 := Try.isAgg71
  z51 := Try.sizeOf71
  v51 := Try.zeroValue71
  t53 := Try.underlying73
  a53 := Try.isAgg73
  z53 := Try.sizeOf73
  v53 := Try.zeroValue73
  t131 := Try.underlying56
  a131 := Try.isAgg56
  z131 := Try.sizeOf56
  v131 := Try.zeroValue56
  t182 := Try.underlying64
  a182 := Try.isAgg64
  z182 := Try.sizeOf64
  v182 := Try.zeroValue64
  t183 := Try.underlying65
  a183 := Try.isAgg65
  z183 := Try.sizeOf65
  v183 := Try.zeroValue65
  t218 := Try.underlying74
  a218 := Try.isAgg74
  z218 := Try.sizeOf74
  v218 := Try.zeroValue74
  t222 := Try.underlying78
  a222 := Try.isAgg78
  z222 := Try.sizeOf78
  v222 := Try.zeroValue78
  t228 := Try.underlying80
  a228 := Try.isAgg80
  z228 := Try.sizeOf80
  v228 := Try.zeroValue80
  t229 := Try.underlying81
  a229 := Try.isAgg81
  z229 := Try.sizeOf81
  v229 := Try.zeroValue81 }
open Go.Sort Go.RowKit in
theorem Try.slices_Sort_string (blk off cap : Nat) (ss : List (List UInt8)) (w : World) (hH : Holds encStr w blk off ss.toArray) (hblk : blk < w.heap.size) (hsz : ss.length < 4611686018427387904) :
    Calls Try.prog 24 #[.slice (some ⟨blk, off, none⟩) ss.length cap] w fun e w' =>
      e = .returned (.tuple #[]) ∧ ∃ n os, w' = grow (putRow encStr (Sort.ahead w n) blk off (ss.mergeSort fun x y => decide (x ≤ y)).toArray) os := Any.slices_Sort_string Try.lays190 blk off cap ss w hH hblk hsz
def Try.lays206_ren : Go.Shelf.Ren := ⟨fun | 206 => 35 | n => n, fun | 9 => 9 | 4 => 4 | 3 => 3 | n => n, fun | n => n⟩
theorem Try.lays206 : Go.Proofs.Lays.n206 Try.prog Try.lays206_ren := {
  mixed := by kernel_rfl
  f206 := Try.func35.trans (congrArg some (by kernel_rfl))
  t3 := Try.underlying3
  a3 := Try.isAgg3
  z3 := Try.sizeOf3
  v3 := Try.zeroValue3
  t4 := Try.underlying4
  a4 := Try.isAgg4
  z4 := Try.sizeOf4
  v4 := Try.zeroValue4
  t9 := Try.underlying9
  a9 := Try.isAgg9
  z9 := Try.sizeOf9
  v9 := Try.zeroValue9 }
open Go.RowKit Go.Lib in
/-- internal/stringslite.HasPrefix (what strings.HasPrefix calls). (LAID: no walk: one application.) -/
theorem Try.stringslite_HasPrefix (s p : ByteArray) (w : World) :
    Calls Try.prog 35 #[.string s, .string p] w fun e w' => e = .returned (.bool (Lib.hasPrefix s.data.toList p.data.toList)) ∧ w' = w := Any.stringslite_HasPrefix Try.lays206 s p w
def Try.lays99_ren : Go.Shelf.Ren := ⟨fun | 99 => 28 | 206 => 35 | n => n, fun | 9 => 9 | 4 => 4 | 3 => 3 | n => n, fun | n => n⟩
theorem Try.lays99 : Go.Proofs.Lays.n99 Try.prog Try.lays99_ren := {
  mixed := by kernel_rfl
  f99 := Try.func28.trans (congrArg some (by kernel_rfl))
  f206 := Try.func35.trans (congrArg some (by kernel_rfl))
  t3 := Try.underlying3
  a3 := Try.isAgg3
  z3 := Try.sizeOf3
  v3 := Try.zeroValue3
  t4 := Try.underlying4
  a4 := Try.isAgg4
  z4 := Try.sizeOf4
  v4 := Try.zeroValue4
  t9 := Try.underlying9
  a9 := Try.isAgg9
  z9 := Try.sizeOf9
  v9 := Try.zeroValue9 }
open Go.RowKit Go.Lib in
/-- strings.HasPrefix: "HasPrefix reports whether the string s begins with prefix.": IT RETURNS 'Lib.hasPrefix s prefix'; the world is as it was. (LAID: no walk: one application.) -/
theorem Try.strings_HasPrefix (s p : ByteArray) (w : World) :
    Calls Try.prog 28 #[.string s, .string p] w fun e w' => e = .returned (.bool (Lib.hasPrefix s.data.toList p.data.toList)) ∧ w' = w := Any.strings_HasPrefix Try.lays99 s p w
def Try.lays207_ren : Go.Shelf.Ren := ⟨fun | 207 => 48 | n => n, fun | 9 => 9 | 4 => 4 | 3 => 3 | n => n, fun | n => n⟩
theorem Try.lays207 : Go.Proofs.Lays.n207 Try.prog Try.lays207_ren := {
  mixed := by kernel_rfl
  f207 := Try.func48.trans (congrArg some (by kernel_rfl))
  t3 := Try.underlying3
  a3 := Try.isAgg3
  z3 := Try.sizeOf3
  v3 := Try.zeroValue3
  t4 := Try.underlying4
  a4 := Try.isAgg4
  z4 := Try.sizeOf4
  v4 := Try.zeroValue4
  t9 := Try.underlying9
  a9 := Try.isAgg9
  z9 := Try.sizeOf9
  v9 := Try.zeroValue9 }
open Go.RowKit Go.Lib in
/-- internal/stringslite.HasSuffix (what strings.HasSuffix calls). (LAID: no walk: one application.) -/
theorem Try.stringslite_HasSuffix (s p : ByteArray) (w : World) (hs : s.size ≤ 9223372036854775807) :
    Calls Try.prog 48 #[.string s, .string p] w fun e w' => e = .returned (.bool (Lib.hasSuffix s.data.toList p.data.toList)) ∧ w' = w := Any.stringslite_HasSuffix Try.lays207 s p w hs
def Try.lays194_ren : Go.Shelf.Ren := ⟨fun | 194 => 25 | n => n, fun | 31 => 22 | 9 => 9 | 3 => 3 | 4 => 4 | 0 => 0 | n => n, fun | n => n⟩
theorem Try.lays194 : Go.Proofs.Lays.n194 Try.prog Try.lays194_ren := {
  mixed := by kernel_rfl
  f194 := Try.func25.trans (congrArg some (by kernel_rfl))
  t0 := Try.underlying0
  a0 := Try.isAgg0
  z0 := Try.sizeOf0
  v0 := Try.zeroValue0
  t3 := Try.underlying3
  a3 := Try.isAgg3
  z3 := Try.sizeOf3
  v3 := Try.zeroValue3
  t4 := Try.underlying4
  a4 := Try.isAgg4
  z4 := Try.sizeOf4
  v4 := Try.zeroValue4
  t9 := Try.underlying9
  a9 := Try.isAgg9
  z9 := Try.sizeOf9
  v9 := Try.zeroValue9
  t31 := Try.underlying22
  a31 := Try.isAgg22
  z31 := Try.sizeOf22
  v31 := Try.zeroValue22 }
open Go.RowKit Go.Lib Go.Sort in
/-- slices.Compact at []string, over an array: the library's two loops are walked. (LAID: no walk: one application.) -/
theorem Try.slices_Compact_string_arr (blk off cap : Nat) (d : Array (List UInt8)) (w : World) (hH : Holds encStr w blk off d) (hsz : d.size ≤ 9223372036854775807) (hcap : d.size ≤ cap) :
    Calls Try.prog 25 #[.slice (some ⟨blk, off, none⟩) d.size cap] w fun e w' => e = .returned (.slice (some ⟨blk, off, none⟩) (compactUpTo d d.size).length cap) ∧ ∃ q, w' = putRow encStr (Sort.ahead w q) blk off (compactUpTo d d.size ++ List.replicate (d.size - (compactUpTo d d.size).length) []).toArray := Any.slices_Compact_string_arr Try.lays194 blk off cap d w hH hsz hcap
open Go.RowKit Go.Lib Go.Sort in
/-- slices.Compact at []string: "Compact replaces consecutive runs of equal elements with a single copy. This is like the uniq command found on Unix. Compact modifies the contents of the slice s and returns the modified slice, which may have a smaller length. Compact zeroes the elements between the new length and the original length. The result preserves the nilness of s.": IT RETURNS THE SLICE CUT TO 'Lib.compact zs'; ITS CELLS HOLD 'Lib.compact zs', THEN ZERO VALUES up to the old length; all else is as it was, but for the count of draws. IN THE WORDS OF slices.Sort's CONTRACT ('Holds', 'putRow'): so the everyday 'slices.Sort(xs); xs = slices.Compact(xs)' goes from the one contract to the other. It asks 'zs.length ≤ cap' (every slice's: the reslicing 's[:k]' looks at it). Length 0, nil: '.._empty'. (LAID: no walk: one application.) -/
theorem Try.slices_Compact_string (blk off cap : Nat) (zs : List (List UInt8)) (w : World) (hH : Holds encStr w blk off zs.toArray) (hsz : zs.length ≤ 9223372036854775807) (hcap : zs.length ≤ cap) :
    Calls Try.prog 25 #[.slice (some ⟨blk, off, none⟩) zs.length cap] w fun e w' => e = .returned (.slice (some ⟨blk, off, none⟩) (Lib.compact zs).length cap) ∧ ∃ q, w' = putRow encStr (Sort.ahead w q) blk off (Lib.compact zs ++ List.replicate (zs.length - (Lib.compact zs).length) []).toArray := Any.slices_Compact_string Try.lays194 blk off cap zs w hH hsz hcap
open Go.RowKit Go.Lib Go.Sort in
/-- The same at a slice of length 0, a nil one too: it comes back as it is. (LAID: no walk: one application.) -/
theorem Try.slices_Compact_string_empty (a : Option Addr) (cap : Nat) (w : World) :
    Calls Try.prog 25 #[.slice a 0 cap] w fun e w' => e = .returned (.slice a 0 cap) ∧ w' = w := Any.slices_Compact_string_empty Try.lays194 a cap w
open Go.RowKit Go.Sort in
/-- .. and plain. (LAID: no walk: one application.) -/
theorem Try.slices_Sort_string_none (p : Option Addr) (cap : Nat) (w : World) :
    Calls Try.prog 24 #[.slice p 0 cap] w fun e w' => e = .returned (.tuple #[]) ∧ w' = w := Any.slices_Sort_string_none Try.lays190 p cap w
def Try.laysNm226_ren : Go.Shelf.Ren := ⟨fun | 26 => 29 | 33 => 36 | 34 => 37 | 38 => 49 | n => n, fun | 24 => 22 | 9 => 9 | 3 => 3 | 4 => 4 | 40 => 62 | 0 => 0 | n => n, fun | n => n⟩
theorem Try.laysNm226 : Go.Proofs.Lays2.n26 Try.prog Try.laysNm226_ren := {
  mixed := by kernel_rfl
  f26 := Try.func29.trans (congrArg some (by kernel_rfl))
  f33 := Try.func36.trans (congrArg some (by kernel_rfl))
  f34 := Try.func37.trans (congrArg some (by kernel_rfl))
  f38 := Try.func49.trans (congrArg some (by kernel_rfl))
  t0 := Try.underlying0
  a0 := Try.isAgg0
  z0 := Try.sizeOf0
  v0 := Try.zeroValue0
  t3 := Try.underlying3
  a3 := Try.isAgg3
  z3 := Try.sizeOf3
  v3 := Try.zeroValue3
  t4 := Try.underlying4
  a4 := Try.isAgg4
  z4 := Try.sizeOf4
  v4 := Try.zeroValue4
  t9 := Try.underlying9
  a9 := Try.isAgg9
  z9 := Try.sizeOf9
  v9 := Try.zeroValue9
  t24 := Try.underlying22
  a24 := Try.isAgg22
  z24 := Try.sizeOf22
  v24 := Try.zeroValue22
  t40 := Try.underlying62
  a40 := Try.isAgg62
  z40 := Try.sizeOf62
  v40 := Try.zeroValue62 }
open Go.RowKit Go.Lib in
/-- slices.BinarySearch at []string. (LAID: no walk: one application.) -/
theorem Try.slices_BinarySearch_string (b off n c : Nat) (Sx : Nat → ByteArray) (x : ByteArray) (w : World) (hbig : n < 4611686018427387904) (hc : ∀ j, j < n → w.cell? ⟨b, off + j, none⟩ = some (.string (Sx j))) :
    Calls Try.prog 29 #[.slice (some ⟨b, off, none⟩) n c, .string x] w fun e w' =>
      e = .returned (.tuple #[.int .i64 (Lib.bsGo (fun t => Op.bytesLess (Sx t).toList x.toList) n 0 n : Nat), .bool (decide (Lib.bsGo (fun t => Op.bytesLess (Sx t).toList x.toList) n 0 n < n ∧ Sx (Lib.bsGo (fun t => Op.bytesLess (Sx t).toList x.toList) n 0 n) = x))]) ∧ ∃ q, w' = w.drewN q := Any2.slices_BinarySearch_string Try.laysNm226 b off n c Sx x w hbig hc
open Go.RowKit Go.Lib in
/-- .. of no element. (LAID: no walk: one application.) -/
theorem Try.slices_BinarySearch_string_empty (a : Option Addr) (c : Nat) (x : ByteArray) (w : World) :
    Calls Try.prog 29 #[.slice a 0 c, .string x] w fun e w' => e = .returned (.tuple #[.int .i64 0, .bool false]) ∧ w' = w := Any2.slices_BinarySearch_string_empty Try.laysNm226 a c x w
def Try.growS_ren : Go.Shelf.Ren := ⟨fun | 4 => 31 | n => n, fun | 22 => 22 | 25 => 9 | 3 => 3 | 4 => 4 | 9 => 9 | 20 => 20 | 0 => 0 | n => n, fun | n => n⟩
theorem Try.growS : Go.Proofs.Lays8.n4 Try.prog Try.growS_ren := {
  mixed := by kernel_rfl
  f4 := ⟨Try.f31.name, by decide, Try.func31.trans (congrArg some (by kernel_rfl))⟩
  t0 := Try.underlying0
  a0 := Try.isAgg0
  z0 := Try.sizeOf0
  v0 := Try.zeroValue0
  t3 := Try.underlying3
  a3 := Try.isAgg3
  z3 := Try.sizeOf3
  v3 := Try.zeroValue3
  t4 := Try.underlying4
  a4 := Try.isAgg4
  z4 := Try.sizeOf4
  v4 := Try.zeroValue4
  t9 := Try.underlying9
  a9 := Try.isAgg9
  z9 := Try.sizeOf9
  v9 := Try.zeroValue9
  t20 := Try.underlying20
  a20 := Try.isAgg20
  z20 := Try.sizeOf20
  v20 := Try.zeroValue20
  t22 := Try.underlying22
  a22 := Try.isAgg22
  z22 := Try.sizeOf22
  v22 := Try.zeroValue22 }
open Go.RowKit Go.Lib in
/-- slices.Grow at []string where there is room. (LAID: no walk: one application.) -/
theorem Try.slices_Grow_room (base : Option Addr) (l c n : Nat) (w : World) (hlc : l ≤ c) (hc63 : c ≤ 9223372036854775807) (hn63 : n ≤ 9223372036854775807) (hroom : l + n ≤ c) :
    Calls Try.prog 31 #[.slice base l c, .int .i64 n] w fun e w' => e = .returned (.slice base l c) ∧ w' = w := Any8.slices_Grow_room Try.growS base l c n w hlc hc63 hn63 hroom
open Go.RowKit Go.Lib in
/-- slices.Grow at []string of a nil slice. (LAID: no walk: one application.) -/
theorem Try.slices_Grow_grow (i0 : TypeInfo) (z : Value) (hi0 : Try.prog.info? 9 = some i0) (hz0 : i0.zero = some z) (hs0 : 0 < i0.size)
    (base : Option Addr) (l c n : Nat) (cs : List Value) (w : World) (hlc : l ≤ c) (hroom : c < l + n) (hbig : (l + n) * i0.bytes ≤ 140737488355328) (h63 : l + n ≤ 4611686018427387904)
    (hcl : cs.length = c * i0.size) (hnil : base = none → c = 0) (hcs : ∀ a, base = some a → ∀ j v, cs[j]? = some v → w.cell? (a.add j) = some v) :
    Calls Try.prog 31 #[.slice base l c, .int .i64 n] w fun e w' =>
      e = .returned (.slice (some ⟨w.heap.size, 0, none⟩) l (grownCap w (l + n) c 9)) ∧
      w' = w.drew.alloc (.cells (cs.toArray ++ Builtin.zeroCells z.cells (l + n - c) ++ Builtin.zeroCells z.cells (grownCap w (l + n) c 9 - (l + n))) 9) := Any8.slices_Grow_grow Try.growS i0 z hi0 hz0 hs0 base l c n cs w hlc hroom hbig h63 hcl hnil hcs
end Go.Proofs
