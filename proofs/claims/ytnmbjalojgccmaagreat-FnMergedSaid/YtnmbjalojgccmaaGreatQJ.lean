/-
  The library's sort of ints: its contracts at this program, laid by the kit's tool (lay-shelf, then lay-plain).
-/
import Derived.Shelf.Sort.Plain
import Derived.Shelf.Slices.In.SortNone
import Derived.Shelf.Slices.In.SortNone2
import Derived.Test.YtnmbjalojgccmaaGreatProg
section
namespace Go.Proofs
open Go.Shelf
open Go.RowKit in
def Tryz.lays189_ren : Go.Shelf.Ren := ⟨fun | 189 => 262 | 125 => 264 | 257 => 265 | 128 => 274 | 129 => 236 | 294 => 275 | 295 => 276 | 296 => 277 | 297 => 278 | 298 => 279 | 299 => 280 | 216 => 281 | 300 => 282 | 301 => 283 | 328 => 289 | 329 => 285 | 330 => 286 | 331 => 290 | 332 => 291 | 215 => 292 | 343 => 294 | n => n, fun | 28 => 32 | 3 => 3 | 46 => 141 | 0 => 0 | 51 => 211 | 53 => 65 | 4 => 4 | 183 => 267 | 182 => 266 | 131 => 271 | 5 => 5 | 9 => 9 | 218 => 279 | 222 => 283 | 228 => 288 | 229 => 289 | n => n, fun | n => n⟩
theorem Tryz.lays189 : Go.Proofs.Lays.n189 Tryz.prog Tryz.lays189_ren := {
  mixed := by kernel_rfl
  f125 := Tryz.func264.trans (congrArg some (by kernel_rfl))
  f128 := Tryz.func274.trans (congrArg some (by kernel_rfl))
  f129 := Tryz.func236.trans (congrArg some (by kernel_rfl))
  f189 := Tryz.func262.trans (congrArg some (by kernel_rfl))
  f215 := Tryz.func292.trans (congrArg some (by kernel_rfl))
  f216 := Tryz.func281.trans (congrArg some (by kernel_rfl))
  f257 := Tryz.func265.trans (congrArg some (by kernel_rfl))
  f294 := Tryz.func275.trans (congrArg some (by kernel_rfl))
  f295 := Tryz.func276.trans (congrArg some (by kernel_rfl))
  f296 := Tryz.func277.trans (congrArg some (by kernel_rfl))
  f297 := Tryz.func278.trans (congrArg some (by kernel_rfl))
  f298 := Tryz.func279.trans (congrArg some (by kernel_rfl))
  f299 := Tryz.func280.trans (congrArg some (by kernel_rfl))
  f300 := Tryz.func282.trans (congrArg some (by kernel_rfl))
  f301 := Tryz.func283.trans (congrArg some (by kernel_rfl))
  f328 := Tryz.func289.trans (congrArg some (by kernel_rfl))
  f329 := Tryz.func285.trans (congrArg some (by kernel_rfl))
  f330 := Tryz.func286.trans (congrArg some (by kernel_rfl))
  f331 := Tryz.func290.trans (congrArg some (by kernel_rfl))
  f332 := Tryz.func291.trans (congrArg some (by kernel_rfl))
  f343 := Tryz.func294.trans (congrArg some (by kernel_rfl))
  t0 := Tryz.underlying0
  a0 := Tryz.isAgg0
  z0 := Tryz.sizeOf0
  v0 := Tryz.zeroValue0
  t3 := Tryz.underlying3
  a3 := Tryz.isAgg3
  z3 := Tryz.sizeOf3
  v3 := Tryz.zeroValue3
  t4 := Tryz.underlying4
  a4 := Tryz.isAgg4
  z4 := Tryz.sizeOf4
  v4 := Tryz.zeroValue4
  t5 := Tryz.underlying5
  a5 := Tryz.isAgg5
  z5 := Tryz.sizeOf5
  v5 := Tryz.zeroValue5
  t9 := Tryz.underlying9
  a9 := Tryz.isAgg9
  z9 := Tryz.sizeOf9
  v9 := Tryz.zeroValue9
  t28 := Tryz.underlying32
  a28 := Tryz.isAgg32
  z28 := Tryz.sizeOf32
  v28 := Tryz.zeroValue32
  t46 := Tryz.underlying141
  a46 := Tryz.isAgg141
  z46 := Tryz.sizeOf141
  v46 := Tryz.zeroValue141
  t51 := Tryz.underlying211
  a51 := Tryz.isAgg211
  z51 := Tryz.sizeOf211
  v51 := Tryz.zeroValue211
  t53 := Tryz.underlying65
  a53 := Tryz.isAgg65
  z53 := Tryz.sizeOf65
  v53 := Tryz.zeroValue65
  t131 := Tryz.underlying271
  a131 := Tryz.isAgg271
  z131 := Tryz.sizeOf271
  v131 := Tryz.zeroValue271
  t182 := Tryz.underlying266
  a182 := Tryz.isAgg266
  z182 := Tryz.sizeOf266
  v182 := Tryz.zeroValue266
  t183 := Tryz.underlying267
  a183 := Tryz.isAgg267
  z183 := Tryz.sizeOf267
  v183 := Tryz.zeroValue267
  t218 := Tryz.underlying279
  a218 := Tryz.isAgg279
  z218 := Tryz.sizeOf279
  v218 := Tryz.zeroValue279
  t222 := Tryz.underlying283
  a222 := Tryz.isAgg283
  z222 := Tryz.sizeOf283
  v222 := Tryz.zeroValue283
  t228 := Tryz.underlying288
  a228 := Tryz.isAgg288
  z228 := Tryz.sizeOf288
  v228 := Tryz.zeroValue288
  t229 := Tryz.underlying289
  a229 := Tryz.isAgg289
  z229 := Tryz.sizeOf289
  v229 := Tryz.zeroValue289 }
open Go.Sort Go.RowKit in
theorem Tryz.slices_Sort_int (blk off cap : Nat) (zs : List Int) (w : World) (hH : Holds (Value.int .i64) w blk off zs.toArray) (hblk : blk < w.heap.size) (hsz : zs.length < 4611686018427387904) :
    Calls Tryz.prog 262 #[.slice (some ⟨blk, off, none⟩) zs.length cap] w fun e w' =>
      e = .returned (.tuple #[]) ∧ ∃ n os, w' = grow (putRow (Value.int .i64) (Sort.ahead w n) blk off (zs.mergeSort fun x y => decide (x ≤ y)).toArray) os := Any.slices_Sort_int Tryz.lays189 blk off cap zs w hH hblk hsz
def Tryz.lays191_ren : Go.Shelf.Ren := ⟨fun | 191 => 321 | 189 => 262 | 125 => 264 | 257 => 265 | 128 => 274 | 129 => 236 | 294 => 275 | 295 => 276 | 296 => 277 | 297 => 278 | 298 => 279 | 299 => 280 | 216 => 281 | 300 => 282 | 301 => 283 | 328 => 289 | 329 => 285 | 330 => 286 | 331 => 290 | 332 => 291 | 215 => 292 | 343 => 294 | n => n, fun | 28 => 32 | 0 => 0 | 3 => 3 | 46 => 141 | 51 => 211 | 53 => 65 | 4 => 4 | 183 => 267 | 182 => 266 | 131 => 271 | 5 => 5 | 9 => 9 | 218 => 279 | 222 => 283 | 228 => 288 | 229 => 289 | n => n, fun | n => n⟩
theorem Tryz.lays191 : Go.Proofs.Lays.n191 Tryz.prog Tryz.lays191_ren := {
  mixed := by kernel_rfl
  f125 := Tryz.func264.trans (congrArg some (by kernel_rfl))
  f128 := Tryz.func274.trans (congrArg some (by kernel_rfl))
  f129 := Tryz.func236.trans (congrArg some (by kernel_rfl))
  f189 := Tryz.func262.trans (congrArg some (by kernel_rfl))
  f191 := Tryz.func321.trans (congrArg some (by kernel_rfl))
  f215 := Tryz.func292.trans (congrArg some (by kernel_rfl))
  f216 := Tryz.func281.trans (congrArg some (by kernel_rfl))
  f257 := Tryz.func265.trans (congrArg some (by kernel_rfl))
  f294 := Tryz.func275.trans (congrArg some (by kernel_rfl))
  f295 := Tryz.func276.trans (congrArg some (by kernel_rfl))
  f296 := Tryz.func277.trans (congrArg some (by kernel_rfl))
  f297 := Tryz.func278.trans (congrArg some (by kernel_rfl))
  f298 := Tryz.func279.trans (congrArg some (by kernel_rfl))
  f299 := Tryz.func280.trans (congrArg some (by kernel_rfl))
  f300 := Tryz.func282.trans (congrArg some (by kernel_rfl))
  f301 := Tryz.func283.trans (congrArg some (by kernel_rfl))
  f328 := Tryz.func289.trans (congrArg some (by kernel_rfl))
  f329 := Tryz.func285.trans (congrArg some (by kernel_rfl))
  f330 := Tryz.func286.trans (congrArg some (by kernel_rfl))
  f331 := Tryz.func290.trans (congrArg some (by kernel_rfl))
  f332 := Tryz.func291.trans (congrArg some (by kernel_rfl))
  f343 := Tryz.func294.trans (congrArg some (by kernel_rfl))
  t0 := Tryz.underlying0
  a0 := Tryz.isAgg0
  z0 := Tryz.sizeOf0
  v0 := Tryz.zeroValue0
  t3 := Tryz.underlying3
  a3 := Tryz.isAgg3
  z3 := Tryz.sizeOf3
  v3 := Tryz.zeroValue3
  t4 := Tryz.underlying4
  a4 := Tryz.isAgg4
  z4 := Tryz.sizeOf4
  v4 := Tryz.zeroValue4
  t5 := Tryz.underlying5
  a5 := Tryz.isAgg5
  z5 := Tryz.sizeOf5
  v5 := Tryz.zeroValue5
  t9 := Tryz.underlying9
  a9 := Tryz.isAgg9
  z9 := Tryz.sizeOf9
  v9 := Tryz.zeroValue9
  t28 := Tryz.underlying32
  a28 := Tryz.isAgg32
  z28 := Tryz.sizeOf32
  v28 := Tryz.zeroValue32
  t46 := Tryz.underlying141
  a46 := Tryz.isAgg141
  z46 := Tryz.sizeOf141
  v46 := Tryz.zeroValue141
  t51 := Tryz.underlying211
  a51 := Tryz.isAgg211
  z51 := Tryz.sizeOf211
  v51 := Tryz.zeroValue211
  t53 := Tryz.underlying65
  a53 := Tryz.isAgg65
  z53 := Tryz.sizeOf65
  v53 := Tryz.zeroValue65
  t131 := Tryz.underlying271
  a131 := Tryz.isAgg271
  z131 := Tryz.sizeOf271
  v131 := Tryz.zeroValue271
  t182 := Tryz.underlying266
  a182 := Tryz.isAgg266
  z182 := Tryz.sizeOf266
  v182 := Tryz.zeroValue266
  t183 := Tryz.underlying267
  a183 := Tryz.isAgg267
  z183 := Tryz.sizeOf267
  v183 := Tryz.zeroValue267
  t218 := Tryz.underlying279
  a218 := Tryz.isAgg279
  z218 := Tryz.sizeOf279
  v218 := Tryz.zeroValue279
  t222 := Tryz.underlying283
  a222 := Tryz.isAgg283
  z222 := Tryz.sizeOf283
  v222 := Tryz.zeroValue283
  t228 := Tryz.underlying288
  a228 := Tryz.isAgg288
  z228 := Tryz.sizeOf288
  v228 := Tryz.zeroValue288
  t229 := Tryz.underlying289
  a229 := Tryz.isAgg289
  z229 := Tryz.sizeOf289
  v229 := Tryz.zeroValue289 }
open Go.Sort Go.RowKit in
theorem Tryz.sort_Ints (blk off cap : Nat) (zs : List Int) (w : World) (hH : Holds (Value.int .i64) w blk off zs.toArray) (hblk : blk < w.heap.size) (hsz : zs.length < 4611686018427387904) :
    Calls Tryz.prog 321 #[.slice (some ⟨blk, off, none⟩) zs.length cap] w fun e w' =>
      e = .returned (.tuple #[]) ∧ ∃ n os, w' = grow (putRow (Value.int .i64) (Sort.ahead w n) blk off (zs.mergeSort fun x y => decide (x ≤ y)).toArray) os := Any.sort_Ints Tryz.lays191 blk off cap zs w hH hblk hsz
open Go.RowKit Go.Lib in
open Go.RowKit Go.Lib in
open Go.RowKit Go.Sort in
theorem Tryz.slices_Sort_int_none (p : Option Addr) (cap : Nat) (w : World) :
    Calls Tryz.prog 262 #[.slice p 0 cap] w fun e w' => e = .returned (.tuple #[]) ∧ w' = w := Any.slices_Sort_int_none Tryz.lays189 p cap w
open Go.RowKit Go.Sort in
theorem Tryz.sort_Ints_none (p : Option Addr) (cap : Nat) (w : World) :
    Calls Tryz.prog 321 #[.slice p 0 cap] w fun e w' => e = .returned (.tuple #[]) ∧ w' = w := Any.sort_Ints_none Tryz.lays191 p cap w
end Go.Proofs
end
