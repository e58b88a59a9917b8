/-
  The look at each percent, kind Lin. (Printed by gen_mapcoded.py.)
-/
import Derived.Test.YtgommnmmifgbgaaMapCk
namespace Go.Proofs.Ytgommnmmifgbgaa

theorem partLin0 : ((List.range 5).all fun i => chkLin (i + 1)) = true := by decide +kernel
theorem partLin1 : ((List.range 5).all fun i => chkLin (i + 6)) = true := by decide +kernel
theorem partLin2 : ((List.range 5).all fun i => chkLin (i + 11)) = true := by decide +kernel
theorem partLin3 : ((List.range 5).all fun i => chkLin (i + 16)) = true := by decide +kernel
theorem partLin4 : ((List.range 5).all fun i => chkLin (i + 21)) = true := by decide +kernel
theorem partLin5 : ((List.range 5).all fun i => chkLin (i + 26)) = true := by decide +kernel
theorem partLin6 : ((List.range 5).all fun i => chkLin (i + 31)) = true := by decide +kernel
theorem partLin7 : ((List.range 5).all fun i => chkLin (i + 36)) = true := by decide +kernel
theorem partLin8 : ((List.range 5).all fun i => chkLin (i + 41)) = true := by decide +kernel
theorem partLin9 : ((List.range 5).all fun i => chkLin (i + 46)) = true := by decide +kernel

theorem allLin (p : Nat) (h1 : 1 ≤ p) (h2 : p ≤ 50) : chkLin p = true := by
  have key : ∀ c, (((List.range 5).all fun i => chkLin (i + (5 * c + 1))) = true) → 5 * c + 1 ≤ p → p ≤ 5 * c + 5 → chkLin p = true := by
    intro c h h1 h2
    have := List.all_eq_true.1 h (p - (5 * c + 1)) (List.mem_range.2 (by omega))
    rwa [show p - (5 * c + 1) + (5 * c + 1) = p from by omega] at this
  by_cases g0 : p ≤ 5
  · exact key 0 partLin0 (by omega) (by omega)
  by_cases g1 : p ≤ 10
  · exact key 1 partLin1 (by omega) (by omega)
  by_cases g2 : p ≤ 15
  · exact key 2 partLin2 (by omega) (by omega)
  by_cases g3 : p ≤ 20
  · exact key 3 partLin3 (by omega) (by omega)
  by_cases g4 : p ≤ 25
  · exact key 4 partLin4 (by omega) (by omega)
  by_cases g5 : p ≤ 30
  · exact key 5 partLin5 (by omega) (by omega)
  by_cases g6 : p ≤ 35
  · exact key 6 partLin6 (by omega) (by omega)
  by_cases g7 : p ≤ 40
  · exact key 7 partLin7 (by omega) (by omega)
  by_cases g8 : p ≤ 45
  · exact key 8 partLin8 (by omega) (by omega)
  by_cases g9 : p ≤ 50
  · exact key 9 partLin9 (by omega) (by omega)
  omega
end Go.Proofs.Ytgommnmmifgbgaa
