/-
  math/bits.TrailingZeros64, where the library's table lies in its variable as its text lays it.
-/
import Derived.Test.YtgjlbodclfhlfaaDoorFrame
import Derived.Test.YtgjlbodclfhlfaaDoorProg
import Derived.Lib.TrailingZeros
namespace Go.Proofs.YtgjlbodclfhlfaaDoor
open Go.RowKit

/-- The table in its variable. -/
def TabAt (w : World) : Prop := ∀ j, j < Lib.deBruijn64tab.length → w.cell? ⟨1, j, none⟩ = some (.int .u8 (Lib.deBruijn64tab.getD j 0 : Nat))

theorem TabAt.below {B : Nat} {w w' : World} (h : TabAt w) (hb : Below B w w') (hB : 1 < B) : TabAt w' :=
  fun j hj => (hb.cell (p := ⟨1, j, none⟩) hB).trans (h j hj)

theorem tz64_key (x a : Nat) (hx : x < 18446744073709551616) (hlow : x &&& (18446744073709551616 - x) = a) (hx0 : x ≠ 0) :
    IntKind.u64.wrap (bits BinOp.and IntKind.u64 (x : Int) (IntKind.u64.wrap (-(x : Int))) * 285870213051353865) / 288230376151711744 = ((a * 285870213051353865 % 18446744073709551616 / 288230376151711744 : Nat) : Int) := by
  have e1 : IntKind.u64.wrap (-(x : Int)) = ((18446744073709551616 - x : Nat) : Int) := by rw [IntKind.wrap_u64]; omega
  rw [e1, u64_and_nat x _ hx (by omega), hlow, IntKind.wrap_u64]
  omega

set_option maxRecDepth 100000 in
set_option maxHeartbeats 1000000 in
theorem tz64_core (x k idx : Nat) (w : World) (hx0 : ((x : Int) == 0) = false)
    (key : IntKind.u64.wrap (bits BinOp.and IntKind.u64 (x : Int) (IntKind.u64.wrap (-(x : Int))) * 285870213051353865) / 288230376151711744 = (idx : Int))
    (hi : idx < 64) (hk : k < 64) (hcell : w.cell? ⟨1, idx, none⟩ = some (.int .u8 k)) :
    Calls Tryd.prog 41 #[.int .u64 x] w fun e w' => e = .returned (.int .i64 k) ∧ w = w' := by
  go_enter Tryd.func41, Tryd.ntmps41
  go_wp2_with (simp only [key])
  go_ret
  exact ⟨rfl, rfl⟩

set_option maxRecDepth 100000 in
theorem tz64_zero (w : World) :
    Calls Tryd.prog 41 #[.int .u64 0] w fun e w' => e = .returned (.int .i64 64) ∧ w = w' := by
  go_enter Tryd.func41, Tryd.ntmps41
  go_wp2
  go_ret
  exact ⟨rfl, rfl⟩

theorem tz64_any (x : Nat) (hx : x < 18446744073709551616) (w : World) (hT : TabAt w) :
    Calls Tryd.prog 41 #[.int .u64 x] w fun e w' => e = .returned (.int .i64 (Lib.ctz 64 x : Nat)) ∧ w = w' := by
  by_cases hx0 : x = 0
  · subst hx0
    exact tz64_zero w
  · obtain ⟨hlow, hk⟩ := Lib.lowest_bit 64 x hx0 hx
    obtain ⟨hi, htab⟩ := Lib.deBruijn64_at _ hk
    have hcell := hT _ hi
    rw [htab] at hcell
    exact tz64_core x _ _ w (by simp; omega) (tz64_key x _ hx hlow hx0) hi hk hcell
end Go.Proofs.YtgjlbodclfhlfaaDoor
