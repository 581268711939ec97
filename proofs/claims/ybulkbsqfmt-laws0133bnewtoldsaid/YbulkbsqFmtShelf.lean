/- The shelf's contracts at this dump (strings.Compare; slices.SortFunc at labels), laid by the kit's own tool in plain words. -/
import Derived.Shelf.SlGeneric
import Derived.Shelf.Small.Strs
import Derived.Shelf.SlSortCmp.WholeK
import Derived.Shelf.SlSortCmp.NoneTotal
import Derived.Ground.SlsfProg
import Derived.Test.YbulkbsqFmtProg
namespace Go.Proofs
open Go.Shelf
set_option maxRecDepth 1000000
def Ybaf.lays106_ren : Go.Shelf.Ren := ⟨fun | 106 => 14 | 213 => 20 | 265 => 26 | n => n, fun | 9 => 9 | 3 => 3 | n => n, fun | n => n⟩
theorem Ybaf.lays106 : Go.Proofs.Lays.n106 Ybaf.prog Ybaf.lays106_ren := {
  mixed := by kernel_rfl
  f106 := Ybaf.func14.trans (congrArg some (by kernel_rfl))
  f213 := Ybaf.func20.trans (congrArg some (by kernel_rfl))
  f265 := Ybaf.func26.trans (congrArg some (by kernel_rfl))
  t3 := Ybaf.underlying3
  a3 := Ybaf.isAgg3
  z3 := Ybaf.sizeOf3
  v3 := Ybaf.zeroValue3
  t9 := Ybaf.underlying9
  a9 := Ybaf.isAgg9
  z9 := Ybaf.sizeOf9
  v9 := Ybaf.zeroValue9 }
open Go.RowKit in
theorem Ybaf.strings_Compare (a b : ByteArray) (w : World) :
    Calls Ybaf.prog 14 #[.string a, .string b] w fun e w' => e = .returned (.int .i64 (Lib.compareBytes a.data.toList b.data.toList)) ∧ w' = w := Any.strings_Compare Ybaf.lays106 a b w
def Ybaf.sortLab_ren : Go.Shelf.Ren := ⟨fun | 6 => 16 | 15 => 23 | 14 => 22 | 28 => 35 | 29 => 36 | 20 => 27 | 21 => 28 | 22 => 29 | 23 => 30 | 24 => 31 | 25 => 32 | 26 => 33 | 27 => 34 | 46 => 37 | 47 => 38 | 48 => 39 | 49 => 40 | 50 => 41 | 57 => 42 | n => n, fun | 22 => 23 | 24 => 26 | 25 => 38 | 3 => 3 | 39 => 50 | 0 => 0 | 53 => 65 | 55 => 67 | 4 => 4 | 46 => 59 | 45 => 58 | 50 => 42 | 5 => 5 | 9 => 9 | 66 => 71 | 70 => 75 | 76 => 77 | 77 => 78 | n => n, fun | n => n⟩
theorem Ybaf.sortLab : Go.Proofs.SlLaysF0.n6 Ybaf.prog Ybaf.sortLab_ren := {
  mixed := by kernel_rfl
  f6 := ⟨Ybaf.f16.name, by decide, Ybaf.func16.trans (congrArg some (by kernel_rfl))⟩
  f14 := ⟨Ybaf.f22.name, by decide, Ybaf.func22.trans (congrArg some (by kernel_rfl))⟩
  f15 := Ybaf.func23.trans (congrArg some (by kernel_rfl))
  f20 := ⟨Ybaf.f27.name, by decide, Ybaf.func27.trans (congrArg some (by kernel_rfl))⟩
  f21 := ⟨Ybaf.f28.name, by decide, Ybaf.func28.trans (congrArg some (by kernel_rfl))⟩
  f22 := ⟨Ybaf.f29.name, by decide, Ybaf.func29.trans (congrArg some (by kernel_rfl))⟩
  f23 := ⟨Ybaf.f30.name, by decide, Ybaf.func30.trans (congrArg some (by kernel_rfl))⟩
  f24 := ⟨Ybaf.f31.name, by decide, Ybaf.func31.trans (congrArg some (by kernel_rfl))⟩
  f25 := ⟨Ybaf.f32.name, by decide, Ybaf.func32.trans (congrArg some (by kernel_rfl))⟩
  f26 := ⟨Ybaf.f33.name, by decide, Ybaf.func33.trans (congrArg some (by kernel_rfl))⟩
  f27 := ⟨Ybaf.f34.name, by decide, Ybaf.func34.trans (congrArg some (by kernel_rfl))⟩
  f28 := Ybaf.func35.trans (congrArg some (by kernel_rfl))
  f29 := Ybaf.func36.trans (congrArg some (by kernel_rfl))
  f46 := ⟨Ybaf.f37.name, by decide, Ybaf.func37.trans (congrArg some (by kernel_rfl))⟩
  f47 := Ybaf.func38.trans (congrArg some (by kernel_rfl))
  f48 := Ybaf.func39.trans (congrArg some (by kernel_rfl))
  f49 := ⟨Ybaf.f40.name, by decide, Ybaf.func40.trans (congrArg some (by kernel_rfl))⟩
  f50 := ⟨Ybaf.f41.name, by decide, Ybaf.func41.trans (congrArg some (by kernel_rfl))⟩
  f57 := ⟨Ybaf.f42.name, by decide, Ybaf.func42.trans (congrArg some (by kernel_rfl))⟩
  t0 := Ybaf.underlying0
  a0 := Ybaf.isAgg0
  z0 := Ybaf.sizeOf0
  v0 := Ybaf.zeroValue0
  t3 := Ybaf.underlying3
  a3 := Ybaf.isAgg3
  z3 := Ybaf.sizeOf3
  v3 := Ybaf.zeroValue3
  t4 := Ybaf.underlying4
  a4 := Ybaf.isAgg4
  z4 := Ybaf.sizeOf4
  v4 := Ybaf.zeroValue4
  t5 := Ybaf.underlying5
  a5 := Ybaf.isAgg5
  z5 := Ybaf.sizeOf5
  v5 := Ybaf.zeroValue5
  t9 := Ybaf.underlying9
  a9 := Ybaf.isAgg9
  z9 := Ybaf.sizeOf9
  v9 := Ybaf.zeroValue9
  t22 := Ybaf.underlying23
  a22 := Ybaf.isAgg23
  z22 := Ybaf.sizeOf23
  v22 := Ybaf.zeroValue23
  t25 := Ybaf.underlying38
  a25 := Ybaf.isAgg38
  z25 := Ybaf.sizeOf38
  v25 := Ybaf.zeroValue38
  t39 := Ybaf.underlying50
  a39 := Ybaf.isAgg50
  z39 := Ybaf.sizeOf50
  v39 := Ybaf.zeroValue50
  t45 := Ybaf.underlying58
  a45 := Ybaf.isAgg58
  z45 := Ybaf.sizeOf58
  v45 := Ybaf.zeroValue58
  t46 := Ybaf.underlying59
  a46 := Ybaf.isAgg59
  z46 := Ybaf.sizeOf59
  v46 := Ybaf.zeroValue59
  t50 := Ybaf.underlying42
  a50 := Ybaf.isAgg42
  z50 := Ybaf.sizeOf42
  v50 := Ybaf.zeroValue42
  t53 := Ybaf.underlying65
  a53 := Ybaf.isAgg65
  z53 := Ybaf.sizeOf65
  v53 := Ybaf.zeroValue65
  t55 := Ybaf.underlying67
  a55 := Ybaf.isAgg67
  z55 := Ybaf.sizeOf67
  v55 := Ybaf.zeroValue67
  t66 := Ybaf.underlying71
  a66 := Ybaf.isAgg71
  z66 := Ybaf.sizeOf71
  v66 := Ybaf.zeroValue71
  t70 := Ybaf.underlying75
  a70 := Ybaf.isAgg75
  z70 := Ybaf.sizeOf75
  v70 := Ybaf.zeroValue75
  t76 := Ybaf.underlying77
  a76 := Ybaf.isAgg77
  z76 := Ybaf.sizeOf77
  v76 := Ybaf.zeroValue77
  t77 := Ybaf.underlying78
  a77 := Ybaf.isAgg78
  z77 := Ybaf.sizeOf78
  v77 := Ybaf.zeroValue78 }
end Go.Proofs
