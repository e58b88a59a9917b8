/-
  impl.mapped: a mapping of each kind.
-/
import Derived.Test.YtgommnmmifgbgaaNew
namespace Go.Proofs.Ytgommnmmifgbgaa
open Go.RowKit

/-- A mapping as an interface value, of the pointer type tP, its struct of type t. -/
def MadeI (tP t : TypeId) (g off mult mn mx : Nat) (w : World) (e : Ending) (w' : World) : Prop :=
  ∃ p, e = .returned (.tuple #[.iface tP (.pointer (some ⟨p, 0, none⟩)), .bool true]) ∧ w.heap.size ≤ p ∧ w'.heap[p]? = some (.cells #[.float .f64 g, .float .f64 off, .float .f64 mult, .float .f64 mn, .float .f64 mx] t (0, 0)) ∧ Below w.heap.size w w'

set_option maxRecDepth 100000 in
set_option maxHeartbeats 800000 in
theorem mapped_log (a g off mult mn mx : Nat) (w : World) (h : ofLogF a = some (g, off, mult, mn, mx)) : Calls Try.prog 13 #[.int .i64 0, .float .f64 a] w fun e w' => MadeI 60 88 g off mult mn mx w e w' := by
  have H := fun w => ofLog_any a g off mult mn mx w h
  clear h
  go_enter Try.func13, Try.ntmps13
  go_wp2_with (go_at_call 21; (with_reducible refine (H w).mono ?_); rintro e w' ⟨p, rfl, hp, hh, hb⟩)
  go_region
  go_wp2
  go_ret2
  exact ⟨p, rfl, hp, hh, hb.drew⟩

set_option maxRecDepth 100000 in
set_option maxHeartbeats 800000 in
theorem mapped_lin (a g off mult mn mx : Nat) (w : World) (h : ofLinF a = some (g, off, mult, mn, mx)) : Calls Try.prog 13 #[.int .i64 1, .float .f64 a] w fun e w' => MadeI 63 89 g off mult mn mx w e w' := by
  have H := fun w => ofLin_any a g off mult mn mx w h
  clear h
  go_enter Try.func13, Try.ntmps13
  go_wp2_with (go_at_call 22; (with_reducible refine (H w).mono ?_); rintro e w' ⟨p, rfl, hp, hh, hb⟩)
  go_region
  go_wp2
  go_ret2
  exact ⟨p, rfl, hp, hh, hb.drew⟩

set_option maxRecDepth 100000 in
set_option maxHeartbeats 800000 in
theorem mapped_cub (a g off mult mn mx : Nat) (w : World) (h : ofCubF a = some (g, off, mult, mn, mx)) : Calls Try.prog 13 #[.int .i64 2, .float .f64 a] w fun e w' => MadeI 66 90 g off mult mn mx w e w' := by
  have H := fun w => ofCub_any a g off mult mn mx w h
  clear h
  go_enter Try.func13, Try.ntmps13
  go_wp2_with (go_at_call 23; (with_reducible refine (H w).mono ?_); rintro e w' ⟨p, rfl, hp, hh, hb⟩)
  go_region
  go_wp2
  go_ret2
  exact ⟨p, rfl, hp, hh, hb.drew⟩
end Go.Proofs.Ytgommnmmifgbgaa
