/-
  Max and Min as the mappings use them.
-/
import Derived.Test.YtgommnmmifgbgaaMath3
namespace Go.Proofs.Ytgommnmmifgbgaa
open Go.RowKit

/-- The other sign: its digits unseen. -/
def negF (x : Nat) : Nat := Op.negFloat .f64 x
@[go_sem] theorem unary_neg_float (x : Nat) : Op.unary .neg (.float .f64 x) = pure (.float .f64 (negF x)) := rfl

set_option maxRecDepth 100000 in
theorem isNegInf_any (x : Nat) (w : World) (h : fgt (negF x) 9218868437227405311 = false) : Calls Try.prog 58 #[.float .f64 x, .int .i64 (-1)] w fun e w' => e = .returned (.bool false) ∧ w = w' := by
  have h' : (FloatKind.f64.format.order (negF x) 9218868437227405311 == some .gt) = false := h
  clear h
  go_enter Try.func58, Try.ntmps58
  go_wp2
  go_ret
  exact ⟨rfl, rfl⟩

set_option maxRecDepth 100000 in
theorem min_any (y : Nat) (w : World) (h1 : fgt (negF y) 9218868437227405311 = false) (h2 : isNum y = true) (h4 : flt 9218868437227405312 y = false) : Calls Try.prog 42 #[.float .f64 9218868437227405312, .float .f64 y] w fun e w' => e = .returned (.float .f64 y) ∧ w = w' := by
  have k4 : (FloatKind.f64.format.order 9218868437227405312 y == some .lt) = false := h4
  have k0 : (FloatKind.f64.format.order 9218868437227405312 0 == some .eq) = false := by decide +kernel
  have HN := fun w => isNaN_any y w h2
  have HI := fun w => isNegInf_any y w h1
  have HN0 := fun w => isNaN_any 9218868437227405312 w (by decide +kernel)
  have HI0 := fun w => isNegInf_any 9218868437227405312 w (by decide +kernel)
  clear h1 h2 h4
  have HX : ∀ w, Calls Try.prog 51 #[.float .f64 9218868437227405312, .float .f64 y] w fun e w' => e = .returned (.float .f64 y) ∧ w = w' := by
    intro w
    go_enter Try.func51, Try.ntmps51
    go_wp2_with (first | (go_at_call 53; first | (with_reducible refine (HN0 w).mono ?_; rintro e w' ⟨rfl, rfl⟩) | (with_reducible refine (HN w).mono ?_; rintro e w' ⟨rfl, rfl⟩)) | (go_at_call 58; first | (with_reducible refine (HI0 w).mono ?_; rintro e w' ⟨rfl, rfl⟩) | (with_reducible refine (HI w).mono ?_; rintro e w' ⟨rfl, rfl⟩)))
    go_ret
    exact ⟨rfl, rfl⟩
  go_enter Try.func42, Try.ntmps42
  go_wp2_with (go_at_call 51; refine (HX w).mono ?_; rintro e w' ⟨rfl, rfl⟩)
  go_ret
  exact ⟨rfl, rfl⟩

set_option maxRecDepth 100000 in
theorem max_any (y : Nat) (w : World) (h1 : fgt y 9218868437227405311 = false) (h2 : isNum y = true) (h3 : feq 0 y = false) (h4 : fgt 0 y = false) : Calls Try.prog 40 #[.float .f64 0, .float .f64 y] w fun e w' => e = .returned (.float .f64 y) ∧ w = w' := by
  have k3 : (FloatKind.f64.format.order 0 y == some .eq) = false := h3
  have k4 : (FloatKind.f64.format.order 0 y == some .gt) = false := h4
  have k0 : (FloatKind.f64.format.order 0 0 == some .eq) = true := by decide +kernel
  have HN := fun w => isNaN_any y w h2
  have HI := fun w => isPosInf_any y w h1
  have HN0 := fun w => isNaN_any 0 w (by decide +kernel)
  have HI0 := fun w => isPosInf_any 0 w (by decide +kernel)
  clear h1 h2 h3 h4
  have HX : ∀ w, Calls Try.prog 49 #[.float .f64 0, .float .f64 y] w fun e w' => e = .returned (.float .f64 y) ∧ w = w' := by
    intro w
    go_enter Try.func49, Try.ntmps49
    go_wp2_with (first | (go_at_call 53; first | (with_reducible refine (HN0 w).mono ?_; rintro e w' ⟨rfl, rfl⟩) | (with_reducible refine (HN w).mono ?_; rintro e w' ⟨rfl, rfl⟩)) | (go_at_call 58; first | (with_reducible refine (HI0 w).mono ?_; rintro e w' ⟨rfl, rfl⟩) | (with_reducible refine (HI w).mono ?_; rintro e w' ⟨rfl, rfl⟩)))
    go_ret
    exact ⟨rfl, rfl⟩
  go_enter Try.func40, Try.ntmps40
  go_wp2_with (go_at_call 49; refine (HX w).mono ?_; rintro e w' ⟨rfl, rfl⟩)
  go_ret
  exact ⟨rfl, rfl⟩
end Go.Proofs.Ytgommnmmifgbgaa
