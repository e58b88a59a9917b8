/-
  Floats, the small ones: Abs, IsNaN, IsInf, Inf, normalize, Frexp, Ldexp, Copysign: what they hand back, as plain functions of the bits.
-/
import Derived.Test.YtgommnmmifgbgaaTwin
import Derived.Laws.FloatArith
namespace Go.Proofs.Ytgommnmmifgbgaa
open Go.RowKit

def fadd (x y : Nat) : Option Nat := floatBits .add .f64 x y
def fsub (x y : Nat) : Option Nat := floatBits .sub .f64 x y
def fmul (x y : Nat) : Option Nat := floatBits .mul .f64 x y
def fdiv (x y : Nat) : Option Nat := floatBits .quo .f64 x y
def flt (x y : Nat) : Bool := FloatKind.f64.format.order x y == some .lt
def fgt (x y : Nat) : Bool := FloatKind.f64.format.order x y == some .gt
def fle (x y : Nat) : Bool := FloatKind.f64.format.order x y == some .lt || FloatKind.f64.format.order x y == some .eq
def fge (x y : Nat) : Bool := FloatKind.f64.format.order x y == some .gt || FloatKind.f64.format.order x y == some .eq
def feq (x y : Nat) : Bool := FloatKind.f64.format.order x y == some .eq
/-- The same, told anew: no NaN. -/
def isNum (x : Nat) : Bool := FloatKind.f64.format.order x x == some .eq

/-- A number's bits without its sign. -/
def absF (x : Nat) : Nat := (bits .andNot .u64 (x : Int) 9223372036854775808).toNat
theorem absF_eq (x : Nat) (hx : x < 18446744073709551616) : absF x = x % 9223372036854775808 := by
  unfold absF
  have h := u64_andNot_nat x 9223372036854775808 hx (by decide)
  rw [show ((9223372036854775808 : Nat) : Int) = 9223372036854775808 from rfl] at h
  rw [h, show 18446744073709551615 - 9223372036854775808 = 2 ^ 63 - 1 from by decide, Nat.and_two_pow_sub_one_eq_mod]
  rfl

set_option maxRecDepth 100000 in
theorem abs_any (x : Nat) (w : World) : Calls Try.prog 59 #[.float .f64 x] w fun e w' => e = .returned (.float .f64 (absF x)) ∧ w = w' := by
  obtain ⟨y, hy, hz⟩ : ∃ y : Int, bits .andNot .u64 (x : Int) 9223372036854775808 = y ∧ Hid (absF x = y.toNat) := ⟨_, rfl, rfl⟩
  rw [hz.out]
  go_enter Try.func59, Try.ntmps59
  go_wp2_with (first | (go_at_call 66; refine (twinBits_any x w).mono ?_; rintro e w' ⟨rfl, rfl⟩) | (go_at_call 46; refine (twinFrom_any y w).mono ?_; rintro e w' ⟨rfl, rfl⟩))
  go_ret
  exact ⟨rfl, rfl⟩

/-- What is handed back, where the world is as it was. -/
def Hands (v : Value) (w : World) (e : Ending) (w' : World) : Prop := e = .returned v ∧ w = w'

set_option maxRecDepth 100000 in
theorem isNaN_any (x : Nat) (w : World) (h : isNum x = true) : Calls Try.prog 53 #[.float .f64 x] w fun e w' => e = .returned (.bool false) ∧ w = w' := by
  have h' : FloatKind.f64.format.order x x = some .eq := by simpa [isNum] using h
  clear h
  go_enter Try.func53, Try.ntmps53
  go_wp2
  go_ret
  exact ⟨rfl, rfl⟩

/-- No infinity. -/
def isFin (x : Nat) : Bool := !(fgt (absF x) 9218868437227405311)

set_option maxRecDepth 100000 in
theorem isInf_any (x : Nat) (w : World) (h : isFin x = true) : Calls Try.prog 58 #[.float .f64 x, .int .i64 0] w fun e w' => e = .returned (.bool false) ∧ w = w' := by
  have h' : (FloatKind.f64.format.order (absF x) 9218868437227405311 == some .gt) = false := by simpa [isFin, fgt] using h
  clear h
  have HA := fun w => abs_any x w
  revert h' HA
  generalize absF x = y
  intro h' HA
  go_enter Try.func58, Try.ntmps58
  go_wp2_with (go_at_call 59; refine (HA w).mono ?_; rintro e w' ⟨rfl, rfl⟩)
  go_ret
  exact ⟨rfl, rfl⟩

set_option maxRecDepth 100000 in
theorem isPosInf_any (x : Nat) (w : World) (h : fgt x 9218868437227405311 = false) : Calls Try.prog 58 #[.float .f64 x, .int .i64 1] w fun e w' => e = .returned (.bool false) ∧ w = w' := by
  have h' : (FloatKind.f64.format.order x 9218868437227405311 == some .gt) = false := h
  clear h
  go_enter Try.func58, Try.ntmps58
  go_wp2
  go_ret
  exact ⟨rfl, rfl⟩

set_option maxRecDepth 100000 in
theorem inf_any (w : World) : Calls Try.prog 57 #[.int .i64 1] w fun e w' => e = .returned (.float .f64 9218868437227405312) ∧ w = w' := by
  go_enter Try.func57, Try.ntmps57
  go_wp2_with (go_at_call 46; refine (twinFrom_any 9218868437227405312 w).mono ?_; rintro e w' ⟨rfl, rfl⟩)
  go_ret
  exact ⟨rfl, rfl⟩

set_option maxRecDepth 100000 in
theorem normalize_any (x : Nat) (w : World) (h : flt (absF x) 4503599627370496 = false) : Calls Try.prog 74 #[.float .f64 x] w fun e w' => e = .returned (.tuple #[.float .f64 x, .int .i64 0]) ∧ w = w' := by
  have h' : (FloatKind.f64.format.order (absF x) 4503599627370496 == some .lt) = false := h
  clear h
  have HA := fun w => abs_any x w
  revert h' HA
  generalize absF x = y
  intro h' HA
  go_enter Try.func74, Try.ntmps74
  go_wp2_with (go_at_call 59; refine (HA w).mono ?_; rintro e w' ⟨rfl, rfl⟩)
  go_ret2
  exact ⟨rfl, rfl⟩

/-- The fraction and the exponent of a number that is not nought and has all its digits. -/
def frexpF (x : Nat) : Option (Nat × Int) :=
  if feq x 0 = false ∧ isNum x = true ∧ isFin x = true ∧ flt (absF x) 4503599627370496 = false then
    some ((bits .or .u64 (bits .andNot .u64 (x : Int) 9218868437227405312) 4602678819172646912).toNat, wrap64 (wrap64 (wrap64 (wrap64 (bits .and .u64 ((x : Int) / 4503599627370496) 2047) - 1023) + 1)))
  else none

set_option maxRecDepth 100000 in
theorem frexp_any (x f : Nat) (k : Int) (w : World) (h : frexpF x = some (f, k)) : Calls Try.prog 62 #[.float .f64 x] w fun e w' => e = .returned (.tuple #[.float .f64 f, .int .i64 k]) ∧ w = w' := by
  unfold frexpF at h
  split at h
  · rename_i hc
    obtain ⟨h0, h1, h2, h3⟩ := hc
    simp only [Option.some.injEq, Prod.mk.injEq] at h
    obtain ⟨hf, hk⟩ := h
    have h0' : (FloatKind.f64.format.order x 0 == some .eq) = false := h0
    have HN := fun w => isNaN_any x w h1
    have HI := fun w => isInf_any x w h2
    have HZ := fun w => normalize_any x w h3
    clear h0 h1 h2 h3
    have HX : ∀ w, Calls Try.prog 70 #[.float .f64 x] w fun e w' => e = .returned (.tuple #[.float .f64 f, .int .i64 k]) ∧ w = w' := by
      intro w
      go_enter Try.func70, Try.ntmps70
      go_wp2_with (first | (go_at_call 58; refine (HI w).mono ?_; rintro e w' ⟨rfl, rfl⟩) | (go_at_call 53; refine (HN w).mono ?_; rintro e w' ⟨rfl, rfl⟩) | (go_at_call 74; refine (HZ w).mono ?_; rintro e w' ⟨rfl, rfl⟩) | (go_at_call 66; refine (twinBits_any x w).mono ?_; rintro e w' ⟨rfl, rfl⟩) | (go_at_call 46; refine (twinFrom_any _ w).mono ?_; rintro e w' ⟨rfl, rfl⟩))
      go_ret2
      subst hf hk
      exact ⟨rfl, rfl⟩
    clear HN HI HZ h0' hf hk
    go_enter Try.func62, Try.ntmps62
    go_wp2_with (go_at_call 70; refine (HX w).mono ?_; rintro e w' ⟨rfl, rfl⟩)
    go_ret2
    exact ⟨rfl, rfl⟩
  · cases h

def copysignF (x y : Nat) : Nat := (bits .or .u64 (bits .andNot .u64 (x : Int) 9223372036854775808) (bits .and .u64 (y : Int) 9223372036854775808)).toNat

set_option maxRecDepth 100000 in
theorem copysign_any (x y : Nat) (w : World) : Calls Try.prog 69 #[.float .f64 x, .float .f64 y] w fun e w' => e = .returned (.float .f64 (copysignF x y)) ∧ w = w' := by
  go_enter Try.func69, Try.ntmps69
  go_wp2_with (first | (go_at_call 66; refine (twinBits_any _ w).mono ?_; rintro e w' ⟨rfl, rfl⟩) | (go_at_call 46; refine (twinFrom_any _ w).mono ?_; rintro e w' ⟨rfl, rfl⟩))
  go_ret
  exact ⟨rfl, rfl⟩

/-- A number's whole part. -/
def truncF (x : Nat) : Nat :=
  if flt (absF x) 4607182418800017408 = true then copysignF 0 x
  else if IntKind.u64.wrap (bits .and .u64 ((x : Int) / 4503599627370496) 2047 - 1023) < 52 then
    (bits .andNot .u64 (x : Int) (IntKind.u64.wrap (IntKind.u64.wrap (2 ^ min (IntKind.u64.wrap (52 - IntKind.u64.wrap (bits .and .u64 ((x : Int) / 4503599627370496) 2047 - 1023))).toNat 64) - 1))).toNat
  else x

set_option maxRecDepth 100000 in
theorem trunc_any (x : Nat) (w : World) : Calls Try.prog 68 #[.float .f64 x] w fun e w' => e = .returned (.float .f64 (truncF x)) ∧ w = w' := by
  have HX : ∀ w, Calls Try.prog 73 #[.float .f64 x] w fun e w' => e = .returned (.float .f64 (truncF x)) ∧ w = w' := by
    intro w
    unfold truncF
    cases h : flt (absF x) 4607182418800017408
    · have h' : (FloatKind.f64.format.order (absF x) 4607182418800017408 == some .lt) = false := h
      by_cases h2 : IntKind.u64.wrap (bits .and .u64 ((x : Int) / 4503599627370496) 2047 - 1023) < 52
      · rw [if_neg (by decide), if_pos h2]
        go_enter Try.func73, Try.ntmps73
        go_wp2_with (first | (go_at_call 59; refine (abs_any x w).mono ?_; rintro e w' ⟨rfl, rfl⟩) | (go_at_call 66; refine (twinBits_any _ w).mono ?_; rintro e w' ⟨rfl, rfl⟩) | (go_at_call 46; refine (twinFrom_any _ w).mono ?_; rintro e w' ⟨rfl, rfl⟩))
        go_ret
        exact ⟨rfl, rfl⟩
      · rw [if_neg (by decide), if_neg h2]
        go_enter Try.func73, Try.ntmps73
        go_wp2_with (first | (go_at_call 59; refine (abs_any x w).mono ?_; rintro e w' ⟨rfl, rfl⟩) | (go_at_call 66; refine (twinBits_any _ w).mono ?_; rintro e w' ⟨rfl, rfl⟩) | (go_at_call 46; refine (twinFrom_any _ w).mono ?_; rintro e w' ⟨rfl, rfl⟩))
        go_ret
        exact ⟨rfl, rfl⟩
    · have h' : (FloatKind.f64.format.order (absF x) 4607182418800017408 == some .lt) = true := h
      rw [if_pos rfl]
      go_enter Try.func73, Try.ntmps73
      go_wp2_with (first | (go_at_call 59; refine (abs_any x w).mono ?_; rintro e w' ⟨rfl, rfl⟩) | (go_at_call 69; refine (copysign_any 0 x w).mono ?_; rintro e w' ⟨rfl, rfl⟩))
      go_ret
      exact ⟨rfl, rfl⟩
  go_enter Try.func68, Try.ntmps68
  go_wp2_with (go_at_call 73; refine (HX w).mono ?_; rintro e w' ⟨rfl, rfl⟩)
  go_ret
  exact ⟨rfl, rfl⟩

/-- A number's whole part, and what is left. -/
def modfF (x : Nat) : Option (Nat × Nat) := (fsub x (truncF x)).map fun d => (truncF x, copysignF d x)

set_option maxRecDepth 100000 in
theorem modf_any (x a b : Nat) (w : World) (h : modfF x = some (a, b)) : Calls Try.prog 61 #[.float .f64 x] w fun e w' => e = .returned (.tuple #[.float .f64 a, .float .f64 b]) ∧ w = w' := by
  unfold modfF at h
  obtain ⟨d, hd, he⟩ := Option.map_eq_some_iff.1 h
  simp only [Prod.mk.injEq] at he
  obtain ⟨ha, hb⟩ := he
  have HT := fun w => trunc_any x w
  have HC := fun w => copysign_any d x w
  rw [ha] at HT hd
  rw [hb] at HC
  have hs := fun w : World => run_float_arith (P := Try.prog) w .sub 22 .f64 x a d hd
  clear h ha hb hd
  go_enter Try.func61, Try.ntmps61
  go_wp2_with (first | (go_at_call 68; refine (HT w).mono ?_; rintro e w' ⟨rfl, rfl⟩) | (go_at_call 69; refine (HC w).mono ?_; rintro e w' ⟨rfl, rfl⟩))
  go_ret2
  exact ⟨rfl, rfl⟩
end Go.Proofs.Ytgommnmmifgbgaa
