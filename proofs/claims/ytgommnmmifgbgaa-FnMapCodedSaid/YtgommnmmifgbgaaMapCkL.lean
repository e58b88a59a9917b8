/-
  The look at each percent, kind Log. (Printed by gen_mapcoded.py.)
-/
import Derived.Test.YtgommnmmifgbgaaMapCk
namespace Go.Proofs.Ytgommnmmifgbgaa

theorem partLog0 : ((List.range 5).all fun i => chkLog (i + 1)) = true := by decide +kernel
theorem partLog1 : ((List.range 5).all fun i => chkLog (i + 6)) = true := by decide +kernel
theorem partLog2 : ((List.range 5).all fun i => chkLog (i + 11)) = true := by decide +kernel
theorem partLog3 : ((List.range 5).all fun i => chkLog (i + 16)) = true := by decide +kernel
theorem partLog4 : ((List.range 5).all fun i => chkLog (i + 21)) = true := by decide +kernel
theorem partLog5 : ((List.range 5).all fun i => chkLog (i + 26)) = true := by decide +kernel
theorem partLog6 : ((List.range 5).all fun i => chkLog (i + 31)) = true := by decide +kernel
theorem partLog7 : ((List.range 5).all fun i => chkLog (i + 36)) = true := by decide +kernel
theorem partLog8 : ((List.range 5).all fun i => chkLog (i + 41)) = true := by decide +kernel
theorem partLog9 : ((List.range 5).all fun i => chkLog (i + 46)) = true := by decide +kernel

theorem allLog (p : Nat) (h1 : 1 ≤ p) (h2 : p ≤ 50) : chkLog p = true := by
  have key : ∀ c, (((List.range 5).all fun i => chkLog (i + (5 * c + 1))) = true) → 5 * c + 1 ≤ p → p ≤ 5 * c + 5 → chkLog p = true := by
    intro c h h1 h2
    have := List.all_eq_true.1 h (p - (5 * c + 1)) (List.mem_range.2 (by omega))
    rwa [show p - (5 * c + 1) + (5 * c + 1) = p from by omega] at this
  by_cases g0 : p ≤ 5
  · exact key 0 partLog0 (by omega) (by omega)
  by_cases g1 : p ≤ 10
  · exact key 1 partLog1 (by omega) (by omega)
  by_cases g2 : p ≤ 15
  · exact key 2 partLog2 (by omega) (by omega)
  by_cases g3 : p ≤ 20
  · exact key 3 partLog3 (by omega) (by omega)
  by_cases g4 : p ≤ 25
  · exact key 4 partLog4 (by omega) (by omega)
  by_cases g5 : p ≤ 30
  · exact key 5 partLog5 (by omega) (by omega)
  by_cases g6 : p ≤ 35
  · exact key 6 partLog6 (by omega) (by omega)
  by_cases g7 : p ≤ 40
  · exact key 7 partLog7 (by omega) (by omega)
  by_cases g8 : p ≤ 45
  · exact key 8 partLog8 (by omega) (by omega)
  by_cases g9 : p ≤ 50
  · exact key 9 partLog9 (by omega) (by omega)
  omega
end Go.Proofs.Ytgommnmmifgbgaa
