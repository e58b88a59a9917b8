/-
  The twins of Float64bits and Float64frombits.
-/
import Derived.Test.YtgommnmmifgbgaaBits
namespace Go.Proofs.Ytgommnmmifgbgaa
open Go.RowKit

set_option maxRecDepth 100000 in
theorem twinBits_any (b : Nat) (w : World) :
    Calls Try.prog 66 #[.float .f64 b] w fun e w' => e = .returned (.int .u64 b) ∧ w = w' := by
  have hb := Try.bits64
  go_enter Try.func66, Try.ntmps66
  go_wp2
  go_ret
  exact ⟨rfl, rfl⟩

set_option maxRecDepth 100000 in
theorem twinFrom_any (n : Int) (w : World) :
    Calls Try.prog 46 #[.int .u64 n] w fun e w' => e = .returned (.float .f64 n.toNat) ∧ w = w' := by
  have hb := Try.frombits64
  go_enter Try.func46, Try.ntmps46
  go_wp2
  go_ret
  exact ⟨rfl, rfl⟩
end Go.Proofs.Ytgommnmmifgbgaa
