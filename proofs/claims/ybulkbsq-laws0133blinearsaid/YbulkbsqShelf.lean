/- The shelf's contracts at this dump (strings.Compare, slices.Sort, Clone, Compact at []string), laid by the kit's own tool in plain words. -/
import Derived.Shelf.Small.Strs
import Derived.Shelf.Sort.Plain
import Derived.Ground.Names2Prog
import Derived.Shelf.Slices.Clone
import Derived.Shelf.Slices.CompactS
import Derived.Shelf.Slices.Cells
import Derived.Shelf.Slices.In.SortNone
import Derived.Test.YbulkbsqProg
namespace Go.Proofs
open Go.Shelf
def Yba.lays106_ren : Go.Shelf.Ren := ⟨fun | 106 => 22 | 213 => 38 | 265 => 49 | n => n, fun | 9 => 9 | 3 => 3 | n => n, fun | n => n⟩
theorem Yba.lays106 : Go.Proofs.Lays.n106 Yba.prog Yba.lays106_ren := {
  mixed := by kernel_rfl
  f106 := Yba.func22.trans (congrArg some (by kernel_rfl))
  f213 := Yba.func38.trans (congrArg some (by kernel_rfl))
  f265 := Yba.func49.trans (congrArg some (by kernel_rfl))
  t3 := Yba.underlying3
  a3 := Yba.isAgg3
  z3 := Yba.sizeOf3
  v3 := Yba.zeroValue3
  t9 := Yba.underlying9
  a9 := Yba.isAgg9
  z9 := Yba.sizeOf9
  v9 := Yba.zeroValue9 }
open Go.RowKit in
theorem Yba.strings_Compare (a b : ByteArray) (w : World) :
    Calls Yba.prog 22 #[.string a, .string b] w fun e w' => e = .returned (.int .i64 (Lib.compareBytes a.data.toList b.data.toList)) ∧ w' = w := Any.strings_Compare Yba.lays106 a b w
def Yba.lays190_ren : Go.Shelf.Ren := ⟨fun | 190 => 11 | 125 => 19 | 258 => 18 | 128 => 36 | 129 => 37 | 302 => 27 | 303 => 28 | 304 => 29 | 305 => 30 | 306 => 31 | 307 => 32 | 308 => 33 | 309 => 34 | 310 => 35 | 333 => 43 | 329 => 44 | 330 => 45 | 334 => 46 | 335 => 47 | 336 => 48 | 344 => 51 | n => n, fun | 31 => 22 | 9 => 9 | 3 => 3 | 46 => 85 | 0 => 0 | 51 => 100 | 53 => 102 | 4 => 4 | 183 => 93 | 182 => 92 | 131 => 86 | 5 => 5 | 218 => 105 | 222 => 109 | 228 => 112 | 229 => 113 | n => n, fun | n => n⟩
theorem Yba.lays190 : Go.Proofs.Lays.n190 Yba.prog Yba.lays190_ren := {
  mixed := by kernel_rfl
  f125 := Yba.func19.trans (congrArg some (by kernel_rfl))
  f128 := Yba.func36.trans (congrArg some (by kernel_rfl))
  f129 := Yba.func37.trans (congrArg some (by kernel_rfl))
  f190 := Yba.func11.trans (congrArg some (by kernel_rfl))
  f258 := Yba.func18.trans (congrArg some (by kernel_rfl))
  f302 := Yba.func27.trans (congrArg some (by kernel_rfl))
  f303 := Yba.func28.trans (congrArg some (by kernel_rfl))
  f304 := Yba.func29.trans (congrArg some (by kernel_rfl))
  f305 := Yba.func30.trans (congrArg some (by kernel_rfl))
  f306 := Yba.func31.trans (congrArg some (by kernel_rfl))
  f307 := Yba.func32.trans (congrArg some (by kernel_rfl))
  f308 := Yba.func33.trans (congrArg some (by kernel_rfl))
  f309 := Yba.func34.trans (congrArg some (by kernel_rfl))
  f310 := Yba.func35.trans (congrArg some (by kernel_rfl))
  f329 := Yba.func44.trans (congrArg some (by kernel_rfl))
  f330 := Yba.func45.trans (congrArg some (by kernel_rfl))
  f333 := Yba.func43.trans (congrArg some (by kernel_rfl))
  f334 := Yba.func46.trans (congrArg some (by kernel_rfl))
  f335 := Yba.func47.trans (congrArg some (by kernel_rfl))
  f336 := Yba.func48.trans (congrArg some (by kernel_rfl))
  f344 := Yba.func51.trans (congrArg some (by kernel_rfl))
  t0 := Yba.underlying0
  a0 := Yba.isAgg0
  z0 := Yba.sizeOf0
  v0 := Yba.zeroValue0
  t3 := Yba.underlying3
  a3 := Yba.isAgg3
  z3 := Yba.sizeOf3
  v3 := Yba.zeroValue3
  t4 := Yba.underlying4
  a4 := Yba.isAgg4
  z4 := Yba.sizeOf4
  v4 := Yba.zeroValue4
  t5 := Yba.underlying5
  a5 := Yba.isAgg5
  z5 := Yba.sizeOf5
  v5 := Yba.zeroValue5
  t9 := Yba.underlying9
  a9 := Yba.isAgg9
  z9 := Yba.sizeOf9
  v9 := Yba.zeroValue9
  t31 := Yba.underlying22
  a31 := Yba.isAgg22
  z31 := Yba.sizeOf22
  v31 := Yba.zeroValue22
  t46 := Yba.underlying85
  a46 := Yba.isAgg85
  z46 := Yba.sizeOf85
  v46 := Yba.zeroValue85
  t51 := Yba.underlying100
  a51 := Yba.isAgg100
  z51 := Yba.sizeOf100
  v51 := Yba.zeroValue100
  t53 := Yba.underlying102
  a53 := Yba.isAgg102
  z53 := Yba.sizeOf102
  v53 := Yba.zeroValue102
  t131 := Yba.underlying86
  a131 := Yba.isAgg86
  z131 := Yba.sizeOf86
  v131 := Yba.zeroValue86
  t182 := Yba.underlying92
  a182 := Yba.isAgg92
  z182 := Yba.sizeOf92
  v182 := Yba.zeroValue92
  t183 := Yba.underlying93
  a183 := Yba.isAgg93
  z183 := Yba.sizeOf93
  v183 := Yba.zeroValue93
  t218 := Yba.underlying105
  a218 := Yba.isAgg105
  z218 := Yba.sizeOf105
  v218 := Yba.zeroValue105
  t222 := Yba.underlying109
  a222 := Yba.isAgg109
  z222 := Yba.sizeOf109
  v222 := Yba.zeroValue109
  t228 := Yba.underlying112
  a228 := Yba.isAgg112
  z228 := Yba.sizeOf112
  v228 := Yba.zeroValue112
  t229 := Yba.underlying113
  a229 := Yba.isAgg113
  z229 := Yba.sizeOf113
  v229 := Yba.zeroValue113 }
open Go.Sort Go.RowKit in
theorem Yba.slices_Sort_string (blk off cap : Nat) (ss : List (List UInt8)) (w : World) (hH : Holds encStr w blk off ss.toArray) (hblk : blk < w.heap.size) (hsz : ss.length < 4611686018427387904) :
    Calls Yba.prog 11 #[.slice (some ⟨blk, off, none⟩) ss.length cap] w fun e w' =>
      e = .returned (.tuple #[]) ∧ ∃ n os, w' = grow (putRow encStr (Sort.ahead w n) blk off (ss.mergeSort fun x y => decide (x ≤ y)).toArray) os := Any.slices_Sort_string Yba.lays190 blk off cap ss w hH hblk hsz
def Yba.laysNm216_ren : Go.Shelf.Ren := ⟨fun | 16 => 10 | n => n, fun | 24 => 22 | 9 => 9 | 4 => 4 | n => n, fun | n => n⟩
theorem Yba.laysNm216 : Go.Proofs.Lays2.n16 Yba.prog Yba.laysNm216_ren := {
  mixed := by kernel_rfl
  f16 := Yba.func10.trans (congrArg some (by kernel_rfl))
  t4 := Yba.underlying4
  a4 := Yba.isAgg4
  z4 := Yba.sizeOf4
  v4 := Yba.zeroValue4
  t9 := Yba.underlying9
  a9 := Yba.isAgg9
  z9 := Yba.sizeOf9
  v9 := Yba.zeroValue9
  t24 := Yba.underlying22
  a24 := Yba.isAgg22
  z24 := Yba.sizeOf22
  v24 := Yba.zeroValue22
  i9 := by kernel_rfl }
open Go.RowKit Go.Lib in
theorem Yba.slices_Clone_string (b off n c : Nat) (zs : List ByteArray) (w : World) (hz : n ≤ zs.length) (hbig : n * 16 ≤ 140737488355328) (hc : ∀ j, j < zs.length → w.cell? ⟨b, off + j, none⟩ = some (.string (zs.getD j ByteArray.empty))) :
    Calls Yba.prog 10 #[.slice (some ⟨b, off, none⟩) n c] w fun e w' => ∃ v', e = .returned v' ∧ w'.ownsRow w.heap.size 9 1 v' n ((zs.take n).map (Value.string)) ∧ v' ≠ .slice none 0 0 ∧ Below w.heap.size w w' := Any.slices_Clone_string Yba.laysNm216 b off n c zs w hz hbig hc
open Go.RowKit Go.Lib in
theorem Yba.slices_Clone_string_nil (n c : Nat) (w : World) :
    Calls Yba.prog 10 #[.slice none n c] w fun e w' => e = .returned (.slice none 0 0) ∧ w' = w := Any.slices_Clone_string_nil Yba.laysNm216 n c w
open Go.RowKit Go.Lib in
theorem Yba.slices_Clone_string_zero (a : Addr) (c : Nat) (w : World) :
    Calls Yba.prog 10 #[.slice (some a) 0 c] w fun e w' => ∃ v', e = .returned v' ∧ w'.ownsRow w.heap.size 9 1 v' 0 [] ∧ v' ≠ .slice none 0 0 ∧ Below w.heap.size w w' := Any.slices_Clone_string_zero Yba.laysNm216 a c w
def Yba.lays194_ren : Go.Shelf.Ren := ⟨fun | 194 => 12 | n => n, fun | 31 => 22 | 9 => 9 | 3 => 3 | 4 => 4 | 0 => 0 | n => n, fun | n => n⟩
theorem Yba.lays194 : Go.Proofs.Lays.n194 Yba.prog Yba.lays194_ren := {
  mixed := by kernel_rfl
  f194 := Yba.func12.trans (congrArg some (by kernel_rfl))
  t0 := Yba.underlying0
  a0 := Yba.isAgg0
  z0 := Yba.sizeOf0
  v0 := Yba.zeroValue0
  t3 := Yba.underlying3
  a3 := Yba.isAgg3
  z3 := Yba.sizeOf3
  v3 := Yba.zeroValue3
  t4 := Yba.underlying4
  a4 := Yba.isAgg4
  z4 := Yba.sizeOf4
  v4 := Yba.zeroValue4
  t9 := Yba.underlying9
  a9 := Yba.isAgg9
  z9 := Yba.sizeOf9
  v9 := Yba.zeroValue9
  t31 := Yba.underlying22
  a31 := Yba.isAgg22
  z31 := Yba.sizeOf22
  v31 := Yba.zeroValue22 }
open Go.RowKit Go.Lib Go.Sort in
theorem Yba.slices_Compact_string_arr (blk off cap : Nat) (d : Array (List UInt8)) (w : World) (hH : Holds encStr w blk off d) (hsz : d.size ≤ 9223372036854775807) (hcap : d.size ≤ cap) :
    Calls Yba.prog 12 #[.slice (some ⟨blk, off, none⟩) d.size cap] w fun e w' => e = .returned (.slice (some ⟨blk, off, none⟩) (compactUpTo d d.size).length cap) ∧ ∃ q, w' = putRow encStr (Sort.ahead w q) blk off (compactUpTo d d.size ++ List.replicate (d.size - (compactUpTo d d.size).length) []).toArray := Any.slices_Compact_string_arr Yba.lays194 blk off cap d w hH hsz hcap
open Go.RowKit Go.Lib Go.Sort in
theorem Yba.slices_Compact_string (blk off cap : Nat) (zs : List (List UInt8)) (w : World) (hH : Holds encStr w blk off zs.toArray) (hsz : zs.length ≤ 9223372036854775807) (hcap : zs.length ≤ cap) :
    Calls Yba.prog 12 #[.slice (some ⟨blk, off, none⟩) zs.length cap] w fun e w' => e = .returned (.slice (some ⟨blk, off, none⟩) (Lib.compact zs).length cap) ∧ ∃ q, w' = putRow encStr (Sort.ahead w q) blk off (Lib.compact zs ++ List.replicate (zs.length - (Lib.compact zs).length) []).toArray := Any.slices_Compact_string Yba.lays194 blk off cap zs w hH hsz hcap
open Go.RowKit Go.Lib Go.Sort in
theorem Yba.slices_Compact_string_empty (a : Option Addr) (cap : Nat) (w : World) :
    Calls Yba.prog 12 #[.slice a 0 cap] w fun e w' => e = .returned (.slice a 0 cap) ∧ w' = w := Any.slices_Compact_string_empty Yba.lays194 a cap w
open Go.RowKit Go.Lib Go.Sort in
theorem Yba.slices_Compact_string_cells (b off n c : Nat) (Sx : Nat → ByteArray) (w : World) (hbig : n ≤ 9223372036854775807) (hcap : n ≤ c) (hc : ∀ i, i < n → w.cell? ⟨b, off + i, none⟩ = some (.string (Sx i))) (hf : ∀ j, j < n → w.frozen? ⟨b, off + j, none⟩ = false) :
    Calls Yba.prog 12 #[.slice (some ⟨b, off, none⟩) n c] w fun e w' => e = .returned (.slice (some ⟨b, off, none⟩) (Lib.compact (Lib.strsOf Sx n)).length c) ∧ ∃ q, w' = (w.drewN q).setCells b off ((Lib.compact (Lib.strsOf Sx n) ++ List.replicate (n - (Lib.compact (Lib.strsOf Sx n)).length) []).map encStr) := Any.slices_Compact_string_cells Yba.lays194 b off n c Sx w hbig hcap hc hf
open Go.RowKit Go.Sort in
theorem Yba.slices_Sort_string_none (p : Option Addr) (cap : Nat) (w : World) :
    Calls Yba.prog 11 #[.slice p 0 cap] w fun e w' => e = .returned (.tuple #[]) ∧ w' = w := Any.slices_Sort_string_none Yba.lays190 p cap w
end Go.Proofs
