/-
  math/bits.RotateLeft64 by six to either side; mathtwins' Float64bits, Float64frombits.
-/
import Derived.Test.YtgjlbodclfhlfaaDoorBits
namespace Go.Proofs.YtgjlbodclfhlfaaDoor
open Go.RowKit

/-- A number's bits turned to the right by six. -/
def rotr6 (x : Nat) : Nat := x * 288230376151711744 % 18446744073709551616 + x / 64

theorem rotr_spell (x : Nat) (hx : x < 18446744073709551616) : bits BinOp.or IntKind.u64 (IntKind.u64.wrap ((x : Int) * 288230376151711744)) ((x : Int) / 64) = ((rotr6 x : Nat) : Int) := by
  have e2 : IntKind.u64.wrap ((x : Int) * 288230376151711744) = ((x * 288230376151711744 % 18446744073709551616 : Nat) : Int) := by
    rw [IntKind.wrap_u64]; omega
  have e3 : (x : Int) / 64 = ((x / 64 : Nat) : Int) := by omega
  rw [e2, e3, u64_or_nat _ _ (by omega) (by omega), nat_join 58 _ _ (by omega) (by omega)]
  rfl

theorem rotl_spell (x : Nat) (hx : x < 18446744073709551616) : bits BinOp.or IntKind.u64 (IntKind.u64.wrap ((x : Int) * 64)) ((x : Int) / 288230376151711744) = ((rotl6 x : Nat) : Int) := by
  have e2 : IntKind.u64.wrap ((x : Int) * 64) = ((x * 64 % 18446744073709551616 : Nat) : Int) := by
    rw [IntKind.wrap_u64]; omega
  have e3 : (x : Int) / 288230376151711744 = ((x / 288230376151711744 : Nat) : Int) := by omega
  rw [e2, e3, u64_or_nat _ _ (by omega) (by omega), nat_join 6 _ _ (by omega) (by omega)]
  rfl

set_option maxRecDepth 100000 in
theorem rotr_any (x : Nat) (w : World) (hx : x < 18446744073709551616) :
    Calls Tryd.prog 38 #[.int .u64 x, .int .i64 (-6)] w fun e w' => e = .returned (.int .u64 (rotr6 x : Nat)) ∧ w = w' := by
  have h58 : bits .and .u64 (IntKind.u64.wrap (-6)) 63 = 58 := by decide
  obtain ⟨y, hy, HY⟩ : ∃ y : Nat, bits BinOp.or IntKind.u64 (IntKind.u64.wrap ((x : Int) * 288230376151711744)) ((x : Int) / 64) = (y : Int) ∧ Hid (rotr6 x = y) := ⟨rotr6 x, rotr_spell x hx, rfl⟩
  rw [HY.out]
  clear hx
  go_enter Tryd.func38, Tryd.ntmps38
  go_wp2
  go_ret
  exact ⟨rfl, rfl⟩

set_option maxRecDepth 100000 in
theorem rotl_any (x : Nat) (w : World) (hx : x < 18446744073709551616) :
    Calls Tryd.prog 38 #[.int .u64 x, .int .i64 6] w fun e w' => e = .returned (.int .u64 (rotl6 x : Nat)) ∧ w = w' := by
  have h6 : bits .and .u64 6 63 = 6 := by decide
  obtain ⟨y, hy, HY⟩ : ∃ y : Nat, bits BinOp.or IntKind.u64 (IntKind.u64.wrap ((x : Int) * 64)) ((x : Int) / 288230376151711744) = (y : Int) ∧ Hid (rotl6 x = y) := ⟨rotl6 x, rotl_spell x hx, rfl⟩
  rw [HY.out]
  clear hx
  go_enter Tryd.func38, Tryd.ntmps38
  go_wp2
  go_ret
  exact ⟨rfl, rfl⟩

set_option maxRecDepth 100000 in
theorem twinBits_any (b : Nat) (w : World) :
    Calls Tryd.prog 39 #[.float .f64 b] w fun e w' => e = .returned (.int .u64 b) ∧ w = w' := by
  have hb := Tryd.bits64
  go_enter Tryd.func39, Tryd.ntmps39
  go_wp2
  go_ret
  exact ⟨rfl, rfl⟩

set_option maxRecDepth 100000 in
theorem twinFrom_any (n : Int) (w : World) :
    Calls Tryd.prog 43 #[.int .u64 n] w fun e w' => e = .returned (.float .f64 n.toNat) ∧ w = w' := by
  have hb := Tryd.frombits64
  go_enter Tryd.func43, Tryd.ntmps43
  go_wp2
  go_ret
  exact ⟨rfl, rfl⟩
end Go.Proofs.YtgjlbodclfhlfaaDoor
