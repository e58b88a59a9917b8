/-
  withinTolerance at equal numbers; Max at equal numbers.
-/
import Derived.Test.YtgommnmmifgbgaaMath4
namespace Go.Proofs.Ytgommnmmifgbgaa
open Go.RowKit

set_option maxRecDepth 100000 in
theorem maxSame_any (y : Nat) (w : World) (h1 : fgt y 9218868437227405311 = false) (h2 : isNum y = true) (h3 : feq y 0 = false) (h4 : fgt y y = false) : Calls Try.prog 40 #[.float .f64 y, .float .f64 y] w fun e w' => e = .returned (.float .f64 y) ∧ w = w' := by
  have k3 : (FloatKind.f64.format.order y 0 == some .eq) = false := h3
  have k4 : (FloatKind.f64.format.order y y == some .gt) = false := h4
  have HN := fun w => isNaN_any y w h2
  have HI := fun w => isPosInf_any y w h1
  clear h1 h2 h3 h4
  have HX : ∀ w, Calls Try.prog 49 #[.float .f64 y, .float .f64 y] w fun e w' => e = .returned (.float .f64 y) ∧ w = w' := by
    intro w
    go_enter Try.func49, Try.ntmps49
    go_wp2_with (first | (go_at_call 53; (with_reducible refine (HN w).mono ?_); rintro e w' ⟨rfl, rfl⟩) | (go_at_call 58; (with_reducible refine (HI w).mono ?_); rintro e w' ⟨rfl, rfl⟩))
    go_ret
    exact ⟨rfl, rfl⟩
  go_enter Try.func40, Try.ntmps40
  go_wp2_with (go_at_call 49; refine (HX w).mono ?_; rintro e w' ⟨rfl, rfl⟩)
  go_ret
  exact ⟨rfl, rfl⟩

set_option maxRecDepth 100000 in
theorem nearZero_any (w : World) : Calls Try.prog 101 #[.float .f64 0, .float .f64 0, .float .f64 4427486594234968593] w fun e w' => e = .returned (.bool true) ∧ w = w' := by
  have k0 : (FloatKind.f64.format.order 0 0 == some .eq) = true := by decide +kernel
  have ka : absF 0 = 0 := by decide +kernel
  have kl : (FloatKind.f64.format.order 0 4427486594234968593 == some .lt || FloatKind.f64.format.order 0 4427486594234968593 == some .eq) = true := by decide +kernel
  have HA := fun w => abs_any 0 w
  rw [ka] at HA
  go_enter Try.func101, Try.ntmps101
  go_wp2_with (go_at_call 59; (with_reducible refine (HA w).mono ?_); rintro e w' ⟨rfl, rfl⟩)
  go_ret
  exact ⟨rfl, rfl⟩

/-- What withinTolerance looks at where both numbers are x: all as it should be. -/
def nearF (x : Nat) : Bool :=
  !(feq x 0) && !(fgt (absF x) 9218868437227405311) && isNum (absF x) && !(feq (absF x) 0) && !(fgt (absF x) (absF x)) &&
  ((fsub x x).bind fun d => (fmul 4427486594234968593 (absF x)).map fun m => fle (absF d) m) == some true

set_option maxRecDepth 100000 in
theorem nearSame_any (x : Nat) (w : World) (h : nearF x = true) : Calls Try.prog 101 #[.float .f64 x, .float .f64 x, .float .f64 4427486594234968593] w fun e w' => e = .returned (.bool true) ∧ w = w' := by
  unfold nearF at h
  simp only [Bool.and_eq_true, Bool.not_eq_true', beq_iff_eq, Option.bind_eq_some_iff, Option.map_eq_some_iff] at h
  obtain ⟨⟨⟨⟨⟨h0, h1⟩, h2⟩, h3⟩, h4⟩, d, hd, m, hm, hl⟩ := h
  have k0 : (FloatKind.f64.format.order x 0 == some .eq) = false := h0
  have kl : (FloatKind.f64.format.order (absF d) m == some .lt || FloatKind.f64.format.order (absF d) m == some .eq) = true := hl
  have HM := fun w => maxSame_any (absF x) w h1 h2 h3 h4
  have HA := fun w => abs_any x w
  have HD := fun w => abs_any d w
  have hs := fun w : World => run_float_arith (P := Try.prog) w .sub 22 .f64 x x d hd
  have ht := fun w : World => run_float_arith (P := Try.prog) w .mul 22 .f64 4427486594234968593 (absF x) m hm
  clear h0 h1 h2 h3 h4 hd hm hl
  revert kl HM HA HD hs ht
  generalize absF x = y
  generalize absF d = z
  intro kl HM HA HD hs ht
  go_enter Try.func101, Try.ntmps101
  go_wp2_with (first | (go_at_call 59; first | (with_reducible refine (HA w).mono ?_; rintro e w' ⟨rfl, rfl⟩) | (with_reducible refine (HD w).mono ?_; rintro e w' ⟨rfl, rfl⟩)) | (go_at_call 40; (with_reducible refine (HM w).mono ?_); rintro e w' ⟨rfl, rfl⟩))
  go_ret
  exact ⟨rfl, rfl⟩
end Go.Proofs.Ytgommnmmifgbgaa
