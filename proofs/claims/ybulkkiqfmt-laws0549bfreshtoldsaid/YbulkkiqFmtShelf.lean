-- MINE
-- The library's contracts laid at this dump, in plain words (written by the kit's lay-plain tool off a list of five layings).
import Derived.Shelf.SlGeneric
import Derived.Shelf.SlSortCmp.Whole1
import Derived.Shelf.SlicesQ.Contains
import Derived.Shelf.SlicesQ.Equal
import Derived.Shelf.SlicesQ.IndexFunc
import Derived.Shelf.SlicesE.Clone
import Derived.Ground.SlgqProg
import Derived.Ground.SlgfProg
import Derived.Ground.SlgnProg
import Derived.Ground.SlsfProg
import Derived.Test.YbulkkiqFmtProg
namespace Go.Proofs
open Go.Shelf
def Ybaf.containsID_ren : Go.Shelf.Ren := ⟨fun | 7 => 8 | 6 => 13 | n => n, fun | 22 => 22 | 24 => 25 | 4 => 4 | 0 => 0 | 3 => 3 | n => n, fun | n => n⟩
theorem Ybaf.containsID : Go.Proofs.SlLaysQ.n7 Ybaf.prog Ybaf.containsID_ren := {
  mixed := by kernel_rfl
  f6 := ⟨Ybaf.f13.name, by decide, Ybaf.func13.trans (congrArg some (by kernel_rfl))⟩
  f7 := ⟨Ybaf.f8.name, by decide, Ybaf.func8.trans (congrArg some (by kernel_rfl))⟩
  t0 := Ybaf.underlying0
  a0 := Ybaf.isAgg0
  z0 := Ybaf.sizeOf0
  v0 := Ybaf.zeroValue0
  t3 := Ybaf.underlying3
  a3 := Ybaf.isAgg3
  z3 := Ybaf.sizeOf3
  v3 := Ybaf.zeroValue3
  t4 := Ybaf.underlying4
  a4 := Ybaf.isAgg4
  z4 := Ybaf.sizeOf4
  v4 := Ybaf.zeroValue4
  t22 := Ybaf.underlying22
  a22 := Ybaf.isAgg22
  z22 := Ybaf.sizeOf22
  v22 := Ybaf.zeroValue22 }
def Ybaf.cloneN_ren : Go.Shelf.Ren := ⟨fun | 41 => 11 | n => n, fun | 22 => 36 | 23 => 51 | 4 => 4 | n => n, fun | n => n⟩
theorem Ybaf.cloneN : Go.Proofs.SlLaysE0.n41 Ybaf.prog Ybaf.cloneN_ren := {
  mixed := by kernel_rfl
  f41 := ⟨Ybaf.f11.name, by decide, Ybaf.func11.trans (congrArg some (by kernel_rfl))⟩
  t4 := Ybaf.underlying4
  a4 := Ybaf.isAgg4
  z4 := Ybaf.sizeOf4
  v4 := Ybaf.zeroValue4
  t22 := Ybaf.underlying36
  a22 := Ybaf.isAgg36
  z22 := Ybaf.sizeOf36
  v22 := Ybaf.zeroValue36 }
def Ybaf.sortN_ren : Go.Shelf.Ren := ⟨fun | 6 => 15 | 15 => 22 | 14 => 21 | 28 => 37 | 29 => 38 | 20 => 29 | 21 => 30 | 22 => 31 | 23 => 32 | 24 => 33 | 25 => 34 | 26 => 35 | 27 => 36 | 46 => 48 | 47 => 49 | 48 => 50 | 49 => 51 | 50 => 52 | 57 => 60 | n => n, fun | 22 => 36 | 24 => 51 | 25 => 65 | 3 => 3 | 39 => 67 | 0 => 0 | 53 => 39 | 55 => 28 | 4 => 4 | 46 => 76 | 45 => 75 | 50 => 80 | 5 => 5 | 9 => 9 | 66 => 92 | 70 => 95 | 76 => 102 | 77 => 103 | n => n, fun | n => n⟩
theorem Ybaf.sortN : Go.Proofs.SlLaysF.n6 Ybaf.prog Ybaf.sortN_ren := {
  mixed := by kernel_rfl
  f6 := ⟨Ybaf.f15.name, by decide, Ybaf.func15.trans (congrArg some (by kernel_rfl))⟩
  f14 := ⟨Ybaf.f21.name, by decide, Ybaf.func21.trans (congrArg some (by kernel_rfl))⟩
  f15 := Ybaf.func22.trans (congrArg some (by kernel_rfl))
  f20 := ⟨Ybaf.f29.name, by decide, Ybaf.func29.trans (congrArg some (by kernel_rfl))⟩
  f21 := ⟨Ybaf.f30.name, by decide, Ybaf.func30.trans (congrArg some (by kernel_rfl))⟩
  f22 := ⟨Ybaf.f31.name, by decide, Ybaf.func31.trans (congrArg some (by kernel_rfl))⟩
  f23 := ⟨Ybaf.f32.name, by decide, Ybaf.func32.trans (congrArg some (by kernel_rfl))⟩
  f24 := ⟨Ybaf.f33.name, by decide, Ybaf.func33.trans (congrArg some (by kernel_rfl))⟩
  f25 := ⟨Ybaf.f34.name, by decide, Ybaf.func34.trans (congrArg some (by kernel_rfl))⟩
  f26 := ⟨Ybaf.f35.name, by decide, Ybaf.func35.trans (congrArg some (by kernel_rfl))⟩
  f27 := ⟨Ybaf.f36.name, by decide, Ybaf.func36.trans (congrArg some (by kernel_rfl))⟩
  f28 := Ybaf.func37.trans (congrArg some (by kernel_rfl))
  f29 := Ybaf.func38.trans (congrArg some (by kernel_rfl))
  f46 := ⟨Ybaf.f48.name, by decide, Ybaf.func48.trans (congrArg some (by kernel_rfl))⟩
  f47 := Ybaf.func49.trans (congrArg some (by kernel_rfl))
  f48 := Ybaf.func50.trans (congrArg some (by kernel_rfl))
  f49 := ⟨Ybaf.f51.name, by decide, Ybaf.func51.trans (congrArg some (by kernel_rfl))⟩
  f50 := ⟨Ybaf.f52.name, by decide, Ybaf.func52.trans (congrArg some (by kernel_rfl))⟩
  f57 := ⟨Ybaf.f60.name, by decide, Ybaf.func60.trans (congrArg some (by kernel_rfl))⟩
  t0 := Ybaf.underlying0
  a0 := Ybaf.isAgg0
  z0 := Ybaf.sizeOf0
  v0 := Ybaf.zeroValue0
  t3 := Ybaf.underlying3
  a3 := Ybaf.isAgg3
  z3 := Ybaf.sizeOf3
  v3 := Ybaf.zeroValue3
  t4 := Ybaf.underlying4
  a4 := Ybaf.isAgg4
  z4 := Ybaf.sizeOf4
  v4 := Ybaf.zeroValue4
  t5 := Ybaf.underlying5
  a5 := Ybaf.isAgg5
  z5 := Ybaf.sizeOf5
  v5 := Ybaf.zeroValue5
  t9 := Ybaf.underlying9
  a9 := Ybaf.isAgg9
  z9 := Ybaf.sizeOf9
  v9 := Ybaf.zeroValue9
  t22 := Ybaf.underlying36
  a22 := Ybaf.isAgg36
  z22 := Ybaf.sizeOf36
  v22 := Ybaf.zeroValue36
  a24 := Ybaf.isAgg51
  z24 := Ybaf.sizeOf51
  t25 := Ybaf.underlying65
  a25 := Ybaf.isAgg65
  z25 := Ybaf.sizeOf65
  v25 := Ybaf.zeroValue65
  t39 := Ybaf.underlying67
  a39 := Ybaf.isAgg67
  z39 := Ybaf.sizeOf67
  v39 := Ybaf.zeroValue67
  t45 := Ybaf.underlying75
  a45 := Ybaf.isAgg75
  z45 := Ybaf.sizeOf75
  v45 := Ybaf.zeroValue75
  t46 := Ybaf.underlying76
  a46 := Ybaf.isAgg76
  z46 := Ybaf.sizeOf76
  v46 := Ybaf.zeroValue76
  t50 := Ybaf.underlying80
  a50 := Ybaf.isAgg80
  z50 := Ybaf.sizeOf80
  v50 := Ybaf.zeroValue80
  t53 := Ybaf.underlying39
  a53 := Ybaf.isAgg39
  z53 := Ybaf.sizeOf39
  v53 := Ybaf.zeroValue39
  t55 := Ybaf.underlying28
  a55 := Ybaf.isAgg28
  z55 := Ybaf.sizeOf28
  v55 := Ybaf.zeroValue28
  t66 := Ybaf.underlying92
  a66 := Ybaf.isAgg92
  z66 := Ybaf.sizeOf92
  v66 := Ybaf.zeroValue92
  t70 := Ybaf.underlying95
  a70 := Ybaf.isAgg95
  z70 := Ybaf.sizeOf95
  v70 := Ybaf.zeroValue95
  t76 := Ybaf.underlying102
  a76 := Ybaf.isAgg102
  z76 := Ybaf.sizeOf102
  v76 := Ybaf.zeroValue102
  t77 := Ybaf.underlying103
  a77 := Ybaf.isAgg103
  z77 := Ybaf.sizeOf103
  v77 := Ybaf.zeroValue103 }
def Ybaf.containsF_ren : Go.Shelf.Ren := ⟨fun | 8 => 24 | 6 => 39 | n => n, fun | 22 => 58 | 23 => 54 | 25 => 71 | 4 => 4 | 3 => 3 | 0 => 0 | n => n, fun | n => n⟩
theorem Ybaf.containsF : Go.Proofs.SlLaysH0.n8 Ybaf.prog Ybaf.containsF_ren := {
  mixed := by kernel_rfl
  f6 := ⟨Ybaf.f39.name, by decide, Ybaf.func39.trans (congrArg some (by kernel_rfl))⟩
  f8 := ⟨Ybaf.f24.name, by decide, Ybaf.func24.trans (congrArg some (by kernel_rfl))⟩
  t0 := Ybaf.underlying0
  a0 := Ybaf.isAgg0
  z0 := Ybaf.sizeOf0
  v0 := Ybaf.zeroValue0
  t3 := Ybaf.underlying3
  a3 := Ybaf.isAgg3
  z3 := Ybaf.sizeOf3
  v3 := Ybaf.zeroValue3
  t4 := Ybaf.underlying4
  a4 := Ybaf.isAgg4
  z4 := Ybaf.sizeOf4
  v4 := Ybaf.zeroValue4
  t22 := Ybaf.underlying58
  a22 := Ybaf.isAgg58
  z22 := Ybaf.sizeOf58
  v22 := Ybaf.zeroValue58
  t25 := Ybaf.underlying71
  a25 := Ybaf.isAgg71
  z25 := Ybaf.sizeOf71
  v25 := Ybaf.zeroValue71 }
def Ybaf.equalP_ren : Go.Shelf.Ren := ⟨fun | 8 => 26 | n => n, fun | 22 => 58 | 24 => 54 | 4 => 4 | 3 => 3 | 0 => 0 | n => n, fun | n => n⟩
theorem Ybaf.equalP : Go.Proofs.SlLaysQ.n8 Ybaf.prog Ybaf.equalP_ren := {
  mixed := by kernel_rfl
  f8 := ⟨Ybaf.f26.name, by decide, Ybaf.func26.trans (congrArg some (by kernel_rfl))⟩
  t0 := Ybaf.underlying0
  a0 := Ybaf.isAgg0
  z0 := Ybaf.sizeOf0
  v0 := Ybaf.zeroValue0
  t3 := Ybaf.underlying3
  a3 := Ybaf.isAgg3
  z3 := Ybaf.sizeOf3
  v3 := Ybaf.zeroValue3
  t4 := Ybaf.underlying4
  a4 := Ybaf.isAgg4
  z4 := Ybaf.sizeOf4
  v4 := Ybaf.zeroValue4
  t22 := Ybaf.underlying58
  a22 := Ybaf.isAgg58
  z22 := Ybaf.sizeOf58
  v22 := Ybaf.zeroValue58 }
end Go.Proofs
