/-
  The library's SortFunc at bins: its laying at this program (by the kit's tool lay-plain).
-/
import Derived.Shelf.SlGeneric
import Derived.Shelf.SlSortCmp.NoneTotal
import Derived.Ground.SlsfProg
import Derived.Test.YtnmbjalojgccmaaGreatProg
section
namespace Go.Proofs
open Go.Shelf
def Tryz.sortBins_ren : Go.Shelf.Ren := ⟨fun | 6 => 260 | 15 => 264 | 14 => 263 | 28 => 274 | 29 => 236 | 20 => 266 | 21 => 267 | 22 => 268 | 23 => 269 | 24 => 270 | 25 => 271 | 26 => 272 | 27 => 273 | 46 => 284 | 47 => 285 | 48 => 286 | 49 => 287 | 50 => 288 | 57 => 293 | n => n, fun | 22 => 142 | 24 => 145 | 25 => 260 | 3 => 3 | 39 => 141 | 0 => 0 | 53 => 211 | 55 => 65 | 4 => 4 | 46 => 267 | 45 => 266 | 50 => 271 | 5 => 5 | 9 => 9 | 66 => 279 | 70 => 283 | 76 => 288 | 77 => 289 | n => n, fun | n => n⟩
theorem Tryz.sortBins : Go.Proofs.SlLaysF0.n6 Tryz.prog Tryz.sortBins_ren := {
  mixed := by kernel_rfl
  f6 := ⟨Tryz.f260.name, by decide, Tryz.func260.trans (congrArg some (by kernel_rfl))⟩
  f14 := ⟨Tryz.f263.name, by decide, Tryz.func263.trans (congrArg some (by kernel_rfl))⟩
  f15 := Tryz.func264.trans (congrArg some (by kernel_rfl))
  f20 := ⟨Tryz.f266.name, by decide, Tryz.func266.trans (congrArg some (by kernel_rfl))⟩
  f21 := ⟨Tryz.f267.name, by decide, Tryz.func267.trans (congrArg some (by kernel_rfl))⟩
  f22 := ⟨Tryz.f268.name, by decide, Tryz.func268.trans (congrArg some (by kernel_rfl))⟩
  f23 := ⟨Tryz.f269.name, by decide, Tryz.func269.trans (congrArg some (by kernel_rfl))⟩
  f24 := ⟨Tryz.f270.name, by decide, Tryz.func270.trans (congrArg some (by kernel_rfl))⟩
  f25 := ⟨Tryz.f271.name, by decide, Tryz.func271.trans (congrArg some (by kernel_rfl))⟩
  f26 := ⟨Tryz.f272.name, by decide, Tryz.func272.trans (congrArg some (by kernel_rfl))⟩
  f27 := ⟨Tryz.f273.name, by decide, Tryz.func273.trans (congrArg some (by kernel_rfl))⟩
  f28 := Tryz.func274.trans (congrArg some (by kernel_rfl))
  f29 := Tryz.func236.trans (congrArg some (by kernel_rfl))
  f46 := ⟨Tryz.f284.name, by decide, Tryz.func284.trans (congrArg some (by kernel_rfl))⟩
  f47 := Tryz.func285.trans (congrArg some (by kernel_rfl))
  f48 := Tryz.func286.trans (congrArg some (by kernel_rfl))
  f49 := ⟨Tryz.f287.name, by decide, Tryz.func287.trans (congrArg some (by kernel_rfl))⟩
  f50 := ⟨Tryz.f288.name, by decide, Tryz.func288.trans (congrArg some (by kernel_rfl))⟩
  f57 := ⟨Tryz.f293.name, by decide, Tryz.func293.trans (congrArg some (by kernel_rfl))⟩
  t0 := Tryz.underlying0
  a0 := Tryz.isAgg0
  z0 := Tryz.sizeOf0
  v0 := Tryz.zeroValue0
  t3 := Tryz.underlying3
  a3 := Tryz.isAgg3
  z3 := Tryz.sizeOf3
  v3 := Tryz.zeroValue3
  t4 := Tryz.underlying4
  a4 := Tryz.isAgg4
  z4 := Tryz.sizeOf4
  v4 := Tryz.zeroValue4
  t5 := Tryz.underlying5
  a5 := Tryz.isAgg5
  z5 := Tryz.sizeOf5
  v5 := Tryz.zeroValue5
  t9 := Tryz.underlying9
  a9 := Tryz.isAgg9
  z9 := Tryz.sizeOf9
  v9 := Tryz.zeroValue9
  t22 := Tryz.underlying142
  a22 := Tryz.isAgg142
  z22 := Tryz.sizeOf142
  v22 := Tryz.zeroValue142
  t25 := Tryz.underlying260
  a25 := Tryz.isAgg260
  z25 := Tryz.sizeOf260
  v25 := Tryz.zeroValue260
  t39 := Tryz.underlying141
  a39 := Tryz.isAgg141
  z39 := Tryz.sizeOf141
  v39 := Tryz.zeroValue141
  t45 := Tryz.underlying266
  a45 := Tryz.isAgg266
  z45 := Tryz.sizeOf266
  v45 := Tryz.zeroValue266
  t46 := Tryz.underlying267
  a46 := Tryz.isAgg267
  z46 := Tryz.sizeOf267
  v46 := Tryz.zeroValue267
  t50 := Tryz.underlying271
  a50 := Tryz.isAgg271
  z50 := Tryz.sizeOf271
  v50 := Tryz.zeroValue271
  t53 := Tryz.underlying211
  a53 := Tryz.isAgg211
  z53 := Tryz.sizeOf211
  v53 := Tryz.zeroValue211
  t55 := Tryz.underlying65
  a55 := Tryz.isAgg65
  z55 := Tryz.sizeOf65
  v55 := Tryz.zeroValue65
  t66 := Tryz.underlying279
  a66 := Tryz.isAgg279
  z66 := Tryz.sizeOf279
  v66 := Tryz.zeroValue279
  t70 := Tryz.underlying283
  a70 := Tryz.isAgg283
  z70 := Tryz.sizeOf283
  v70 := Tryz.zeroValue283
  t76 := Tryz.underlying288
  a76 := Tryz.isAgg288
  z76 := Tryz.sizeOf288
  v76 := Tryz.zeroValue288
  t77 := Tryz.underlying289
  a77 := Tryz.isAgg289
  z77 := Tryz.sizeOf289
  v77 := Tryz.zeroValue289 }
end Go.Proofs
end
