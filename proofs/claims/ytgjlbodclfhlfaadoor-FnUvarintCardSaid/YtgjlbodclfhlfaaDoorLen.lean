/-
  math/bits.Len64, LeadingZeros64: as many binary digits as a number has.
-/
import Derived.Test.YtgjlbodclfhlfaaDoorFrame
import Derived.Test.YtgjlbodclfhlfaaDoorProg
import Derived.Lib.Small
import Derived.Lib.Walk
import Derived.Lib.Tables
import Derived.Lib.BitFns
namespace Go.Proofs.YtgjlbodclfhlfaaDoor
open Go.RowKit

theorem Tryd.len8_at (y : Int) (h0 : 0 ≤ y) (h1 : y ≤ 255) (w : World) : (Instr.index 9 (.string Lib.len8tab) (.int .u8 y)).run Tryd.prog w = .ok (.int .u8 (Lib.bitLen y.toNat)) w := by
  rw [Lib.run_index_len8tab w 9 .u8 y Tryd.underlying9 h0 h1, Lib.len8_of y h0 h1]

set_option maxRecDepth 100000 in
set_option maxHeartbeats 1000000 in
theorem len64_0 (x : Int) (w : World) (h0 : 0 ≤ x) (h1 : x ≤ 255) :
    Calls Tryd.prog 45 #[.int .u64 x] w fun e w' => e = .returned (.int .i64 (Lib.bitLen x.toNat)) ∧ w = w' := by
  have hy0 : 0 ≤ x := by omega
  have hy1 : x ≤ 255 := by omega
  have hidx := fun w => Tryd.len8_at (x) hy0 hy1 w
  have e : (x).toNat = x.toNat := by omega
  have l := Lib.bitLen_le8' (x) hy0 hy1
  rw [e] at hidx l
  have HT : Hid (Lib.bitLen x.toNat = 0 + Lib.bitLen (x.toNat)) := by show _ = _; omega
  skip
  revert hidx l HT
  generalize Lib.bitLen (x.toNat) = n
  generalize Lib.bitLen x.toNat = m
  intro hidx l HT
  clear e
  go_enter Tryd.func45, Tryd.ntmps45
  go_wp2
  go_ret
  refine ⟨congrArg Ending.returned (congrArg (Value.int IntKind.i64) ?_), rfl⟩
  have := HT.out
  omega

set_option maxRecDepth 100000 in
set_option maxHeartbeats 1000000 in
theorem len64_1 (x : Int) (w : World) (h0 : 256 ≤ x) (h1 : x ≤ 65535) :
    Calls Tryd.prog 45 #[.int .u64 x] w fun e w' => e = .returned (.int .i64 (Lib.bitLen x.toNat)) ∧ w = w' := by
  have hy0 : 0 ≤ x / 256 := by omega
  have hy1 : x / 256 ≤ 255 := by omega
  have hidx := fun w => Tryd.len8_at (x / 256) hy0 hy1 w
  have e : (x / 256).toNat = x.toNat / 256 := by omega
  have l := Lib.bitLen_le8' (x / 256) hy0 hy1
  have s := Lib.bitLen_shift8 x.toNat (by omega) (by omega)
  rw [e] at hidx l
  have HS := Lib.hid s
  clear s
  have HT : Hid (Lib.bitLen x.toNat = 8 + Lib.bitLen (x.toNat / 256)) := HS.out
  clear HS
  revert hidx l HT
  generalize Lib.bitLen (x.toNat / 256) = n
  generalize Lib.bitLen x.toNat = m
  intro hidx l HT
  clear e
  go_enter Tryd.func45, Tryd.ntmps45
  go_wp2
  go_ret
  refine ⟨congrArg Ending.returned (congrArg (Value.int IntKind.i64) ?_), rfl⟩
  have := HT.out
  omega

set_option maxRecDepth 100000 in
set_option maxHeartbeats 1000000 in
theorem len64_2 (x : Int) (w : World) (h0 : 65536 ≤ x) (h1 : x ≤ 16777215) :
    Calls Tryd.prog 45 #[.int .u64 x] w fun e w' => e = .returned (.int .i64 (Lib.bitLen x.toNat)) ∧ w = w' := by
  have hy0 : 0 ≤ x / 65536 := by omega
  have hy1 : x / 65536 ≤ 255 := by omega
  have hidx := fun w => Tryd.len8_at (x / 65536) hy0 hy1 w
  have e : (x / 65536).toNat = x.toNat / 65536 := by omega
  have l := Lib.bitLen_le8' (x / 65536) hy0 hy1
  have s := Lib.bitLen_shift16 x.toNat (by omega) (by omega)
  rw [e] at hidx l
  have HS := Lib.hid s
  clear s
  have HT : Hid (Lib.bitLen x.toNat = 16 + Lib.bitLen (x.toNat / 65536)) := HS.out
  clear HS
  revert hidx l HT
  generalize Lib.bitLen (x.toNat / 65536) = n
  generalize Lib.bitLen x.toNat = m
  intro hidx l HT
  clear e
  go_enter Tryd.func45, Tryd.ntmps45
  go_wp2
  go_ret
  refine ⟨congrArg Ending.returned (congrArg (Value.int IntKind.i64) ?_), rfl⟩
  have := HT.out
  omega

set_option maxRecDepth 100000 in
set_option maxHeartbeats 1000000 in
theorem len64_3 (x : Int) (w : World) (h0 : 16777216 ≤ x) (h1 : x ≤ 4294967295) :
    Calls Tryd.prog 45 #[.int .u64 x] w fun e w' => e = .returned (.int .i64 (Lib.bitLen x.toNat)) ∧ w = w' := by
  have hy0 : 0 ≤ x / 65536 / 256 := by omega
  have hy1 : x / 65536 / 256 ≤ 255 := by omega
  have hidx := fun w => Tryd.len8_at (x / 65536 / 256) hy0 hy1 w
  have e : (x / 65536 / 256).toNat = x.toNat / 16777216 := by omega
  have l := Lib.bitLen_le8' (x / 65536 / 256) hy0 hy1
  have s := Lib.bitLen_shift24 x.toNat (by omega) (by omega)
  rw [e] at hidx l
  have HS := Lib.hid s
  clear s
  have HT : Hid (Lib.bitLen x.toNat = 24 + Lib.bitLen (x.toNat / 16777216)) := HS.out
  clear HS
  revert hidx l HT
  generalize Lib.bitLen (x.toNat / 16777216) = n
  generalize Lib.bitLen x.toNat = m
  intro hidx l HT
  clear e
  go_enter Tryd.func45, Tryd.ntmps45
  go_wp2
  go_ret
  refine ⟨congrArg Ending.returned (congrArg (Value.int IntKind.i64) ?_), rfl⟩
  have := HT.out
  omega

set_option maxRecDepth 100000 in
set_option maxHeartbeats 1000000 in
theorem len64_4 (x : Int) (w : World) (h0 : 4294967296 ≤ x) (h1 : x ≤ 1099511627775) :
    Calls Tryd.prog 45 #[.int .u64 x] w fun e w' => e = .returned (.int .i64 (Lib.bitLen x.toNat)) ∧ w = w' := by
  have hy0 : 0 ≤ x / 4294967296 := by omega
  have hy1 : x / 4294967296 ≤ 255 := by omega
  have hidx := fun w => Tryd.len8_at (x / 4294967296) hy0 hy1 w
  have e : (x / 4294967296).toNat = x.toNat / 4294967296 := by omega
  have l := Lib.bitLen_le8' (x / 4294967296) hy0 hy1
  have s := Lib.bitLen_shift32 x.toNat (by omega) (by omega)
  rw [e] at hidx l
  have HS := Lib.hid s
  clear s
  have HT : Hid (Lib.bitLen x.toNat = 32 + Lib.bitLen (x.toNat / 4294967296)) := HS.out
  clear HS
  revert hidx l HT
  generalize Lib.bitLen (x.toNat / 4294967296) = n
  generalize Lib.bitLen x.toNat = m
  intro hidx l HT
  clear e
  go_enter Tryd.func45, Tryd.ntmps45
  go_wp2
  go_ret
  refine ⟨congrArg Ending.returned (congrArg (Value.int IntKind.i64) ?_), rfl⟩
  have := HT.out
  omega

set_option maxRecDepth 100000 in
set_option maxHeartbeats 1000000 in
theorem len64_5 (x : Int) (w : World) (h0 : 1099511627776 ≤ x) (h1 : x ≤ 281474976710655) :
    Calls Tryd.prog 45 #[.int .u64 x] w fun e w' => e = .returned (.int .i64 (Lib.bitLen x.toNat)) ∧ w = w' := by
  have hy0 : 0 ≤ x / 4294967296 / 256 := by omega
  have hy1 : x / 4294967296 / 256 ≤ 255 := by omega
  have hidx := fun w => Tryd.len8_at (x / 4294967296 / 256) hy0 hy1 w
  have e : (x / 4294967296 / 256).toNat = x.toNat / 1099511627776 := by omega
  have l := Lib.bitLen_le8' (x / 4294967296 / 256) hy0 hy1
  have s := Lib.bitLen_shift40 x.toNat (by omega) (by omega)
  rw [e] at hidx l
  have HS := Lib.hid s
  clear s
  have HT : Hid (Lib.bitLen x.toNat = 40 + Lib.bitLen (x.toNat / 1099511627776)) := HS.out
  clear HS
  revert hidx l HT
  generalize Lib.bitLen (x.toNat / 1099511627776) = n
  generalize Lib.bitLen x.toNat = m
  intro hidx l HT
  clear e
  go_enter Tryd.func45, Tryd.ntmps45
  go_wp2
  go_ret
  refine ⟨congrArg Ending.returned (congrArg (Value.int IntKind.i64) ?_), rfl⟩
  have := HT.out
  omega

set_option maxRecDepth 100000 in
set_option maxHeartbeats 1000000 in
theorem len64_6 (x : Int) (w : World) (h0 : 281474976710656 ≤ x) (h1 : x ≤ 72057594037927935) :
    Calls Tryd.prog 45 #[.int .u64 x] w fun e w' => e = .returned (.int .i64 (Lib.bitLen x.toNat)) ∧ w = w' := by
  have hy0 : 0 ≤ x / 4294967296 / 65536 := by omega
  have hy1 : x / 4294967296 / 65536 ≤ 255 := by omega
  have hidx := fun w => Tryd.len8_at (x / 4294967296 / 65536) hy0 hy1 w
  have e : (x / 4294967296 / 65536).toNat = x.toNat / 281474976710656 := by omega
  have l := Lib.bitLen_le8' (x / 4294967296 / 65536) hy0 hy1
  have s := Lib.bitLen_shift48 x.toNat (by omega) (by omega)
  rw [e] at hidx l
  have HS := Lib.hid s
  clear s
  have HT : Hid (Lib.bitLen x.toNat = 48 + Lib.bitLen (x.toNat / 281474976710656)) := HS.out
  clear HS
  revert hidx l HT
  generalize Lib.bitLen (x.toNat / 281474976710656) = n
  generalize Lib.bitLen x.toNat = m
  intro hidx l HT
  clear e
  go_enter Tryd.func45, Tryd.ntmps45
  go_wp2
  go_ret
  refine ⟨congrArg Ending.returned (congrArg (Value.int IntKind.i64) ?_), rfl⟩
  have := HT.out
  omega

set_option maxRecDepth 100000 in
set_option maxHeartbeats 1000000 in
theorem len64_7 (x : Int) (w : World) (h0 : 72057594037927936 ≤ x) (h1 : x ≤ 18446744073709551615) :
    Calls Tryd.prog 45 #[.int .u64 x] w fun e w' => e = .returned (.int .i64 (Lib.bitLen x.toNat)) ∧ w = w' := by
  have hy0 : 0 ≤ x / 4294967296 / 65536 / 256 := by omega
  have hy1 : x / 4294967296 / 65536 / 256 ≤ 255 := by omega
  have hidx := fun w => Tryd.len8_at (x / 4294967296 / 65536 / 256) hy0 hy1 w
  have e : (x / 4294967296 / 65536 / 256).toNat = x.toNat / 72057594037927936 := by omega
  have l := Lib.bitLen_le8' (x / 4294967296 / 65536 / 256) hy0 hy1
  have s := Lib.bitLen_shift56 x.toNat (by omega) (by omega)
  rw [e] at hidx l
  have HS := Lib.hid s
  clear s
  have HT : Hid (Lib.bitLen x.toNat = 56 + Lib.bitLen (x.toNat / 72057594037927936)) := HS.out
  clear HS
  revert hidx l HT
  generalize Lib.bitLen (x.toNat / 72057594037927936) = n
  generalize Lib.bitLen x.toNat = m
  intro hidx l HT
  clear e
  go_enter Tryd.func45, Tryd.ntmps45
  go_wp2
  go_ret
  refine ⟨congrArg Ending.returned (congrArg (Value.int IntKind.i64) ?_), rfl⟩
  have := HT.out
  omega

theorem len64_any (x : Int) (w : World) (h0 : 0 ≤ x) (h1 : x ≤ 18446744073709551615) :
    Calls Tryd.prog 45 #[.int .u64 x] w fun e w' => e = .returned (.int .i64 (Lib.bitLen x.toNat)) ∧ w = w' := by
  by_cases c0 : x ≤ 255
  · exact len64_0 x w (by omega) c0
  by_cases c1 : x ≤ 65535
  · exact len64_1 x w (by omega) c1
  by_cases c2 : x ≤ 16777215
  · exact len64_2 x w (by omega) c2
  by_cases c3 : x ≤ 4294967295
  · exact len64_3 x w (by omega) c3
  by_cases c4 : x ≤ 1099511627775
  · exact len64_4 x w (by omega) c4
  by_cases c5 : x ≤ 281474976710655
  · exact len64_5 x w (by omega) c5
  by_cases c6 : x ≤ 72057594037927935
  · exact len64_6 x w (by omega) c6
  exact len64_7 x w (by omega) h1

set_option maxRecDepth 100000 in
theorem lead64_any (x : Int) (w : World) (h0 : 0 ≤ x) (h1 : x ≤ 18446744073709551615) (hl : Lib.bitLen x.toNat ≤ 64) :
    Calls Tryd.prog 37 #[.int .u64 x] w fun e w' => e = .returned (.int .i64 (64 - (Lib.bitLen x.toNat : Int))) ∧ w = w' := by
  have H := len64_any x w h0 h1
  revert H hl
  generalize Lib.bitLen x.toNat = n
  intro hl H
  go_enter Tryd.func37, Tryd.ntmps37
  go_wp2_with (go_at_call 45; refine H.mono ?_; rintro e w' ⟨rfl, rfl⟩)
  go_ret
  exact ⟨rfl, rfl⟩
end Go.Proofs.YtgjlbodclfhlfaaDoor
