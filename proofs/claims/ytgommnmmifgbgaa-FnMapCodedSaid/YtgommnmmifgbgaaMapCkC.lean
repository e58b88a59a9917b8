/-
  The look at each percent, kind Cub. (Printed by gen_mapcoded.py.)
-/
import Derived.Test.YtgommnmmifgbgaaMapCk
namespace Go.Proofs.Ytgommnmmifgbgaa

theorem partCub0 : ((List.range 5).all fun i => chkCub (i + 1)) = true := by decide +kernel
theorem partCub1 : ((List.range 5).all fun i => chkCub (i + 6)) = true := by decide +kernel
theorem partCub2 : ((List.range 5).all fun i => chkCub (i + 11)) = true := by decide +kernel
theorem partCub3 : ((List.range 5).all fun i => chkCub (i + 16)) = true := by decide +kernel
theorem partCub4 : ((List.range 5).all fun i => chkCub (i + 21)) = true := by decide +kernel
theorem partCub5 : ((List.range 5).all fun i => chkCub (i + 26)) = true := by decide +kernel
theorem partCub6 : ((List.range 5).all fun i => chkCub (i + 31)) = true := by decide +kernel
theorem partCub7 : ((List.range 5).all fun i => chkCub (i + 36)) = true := by decide +kernel
theorem partCub8 : ((List.range 5).all fun i => chkCub (i + 41)) = true := by decide +kernel
theorem partCub9 : ((List.range 5).all fun i => chkCub (i + 46)) = true := by decide +kernel

theorem allCub (p : Nat) (h1 : 1 ≤ p) (h2 : p ≤ 50) : chkCub p = true := by
  have key : ∀ c, (((List.range 5).all fun i => chkCub (i + (5 * c + 1))) = true) → 5 * c + 1 ≤ p → p ≤ 5 * c + 5 → chkCub p = true := by
    intro c h h1 h2
    have := List.all_eq_true.1 h (p - (5 * c + 1)) (List.mem_range.2 (by omega))
    rwa [show p - (5 * c + 1) + (5 * c + 1) = p from by omega] at this
  by_cases g0 : p ≤ 5
  · exact key 0 partCub0 (by omega) (by omega)
  by_cases g1 : p ≤ 10
  · exact key 1 partCub1 (by omega) (by omega)
  by_cases g2 : p ≤ 15
  · exact key 2 partCub2 (by omega) (by omega)
  by_cases g3 : p ≤ 20
  · exact key 3 partCub3 (by omega) (by omega)
  by_cases g4 : p ≤ 25
  · exact key 4 partCub4 (by omega) (by omega)
  by_cases g5 : p ≤ 30
  · exact key 5 partCub5 (by omega) (by omega)
  by_cases g6 : p ≤ 35
  · exact key 6 partCub6 (by omega) (by omega)
  by_cases g7 : p ≤ 40
  · exact key 7 partCub7 (by omega) (by omega)
  by_cases g8 : p ≤ 45
  · exact key 8 partCub8 (by omega) (by omega)
  by_cases g9 : p ≤ 50
  · exact key 9 partCub9 (by omega) (by omega)
  omega
end Go.Proofs.Ytgommnmmifgbgaa
