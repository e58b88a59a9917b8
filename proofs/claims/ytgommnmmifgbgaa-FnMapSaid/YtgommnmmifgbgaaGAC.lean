/-
  Log and Exp whole; Log2; Pow with an exponent whose whole part comes to one; Max, Min. (Printed by gen_math3.py.)
-/
import Derived.Test.YtgommnmmifgbgaaGAB
import Derived.BigQuiet
section
namespace Go.Proofs.Ytgommnmmifgbgaa
open Go.RowKit

def logF (x : Nat) : Option Nat := (logLowF x).or (logHighF x)
theorem log_any (x out : Nat) (w : World) (h : logF x = some out) : Calls Try.prog 39 #[.float .f64 x] w fun e w' => e = .returned (.float .f64 out) ∧ w = w' := by
  unfold logF at h
  rcases Option.or_eq_some_iff.1 h with h | ⟨_, h⟩
  · exact logLow_any x out w h
  · exact logHigh_any x out w h
def expF (x : Nat) : Option Nat := (expPosF x).or ((expNegF x).or ((expZeroF x).or ((expOverF x).or (expUnderF x))))
theorem exp_any (x out : Nat) (w : World) (h : expF x = some out) : Calls Try.prog 41 #[.float .f64 x] w fun e w' => e = .returned (.float .f64 out) ∧ w = w' := by
  unfold expF at h
  rcases Option.or_eq_some_iff.1 h with h | ⟨_, h⟩
  · exact expPos_any x out w h
  rcases Option.or_eq_some_iff.1 h with h | ⟨_, h⟩
  · exact expNeg_any x out w h
  rcases Option.or_eq_some_iff.1 h with h | ⟨_, h⟩
  · exact expZero_any x out w h
  rcases Option.or_eq_some_iff.1 h with h | ⟨_, h⟩
  · exact expOver_any x out w h
  · exact expUnder_any x out w h
def exp2F (x : Nat) : Option Nat := (exp2OverF x).or (exp2UnderF x)
theorem exp2_any (x out : Nat) (w : World) (h : exp2F x = some out) : Calls Try.prog 43 #[.float .f64 x] w fun e w' => e = .returned (.float .f64 out) ∧ w = w' := by
  unfold exp2F at h
  rcases Option.or_eq_some_iff.1 h with h | ⟨_, h⟩
  · exact exp2Over_any x out w h
  · exact exp2Under_any x out w h

/-- ddsketch/pub/mathtwins.log2, plainly. -/
def log2F (x : Nat) : Option Nat :=
  (frexpF x).bind fun ⟨f, k⟩ =>
  (need (!(feq f 4602678819172646912))).bind fun _ =>
  (logF f).bind fun l =>
  (fmul l 4609176140021203710).bind fun m =>
  (some (floatOfInt .f64 k)).bind fun kf =>
  (fadd m kf).bind fun r =>
  some r

set_option maxRecDepth 100000 in
set_option maxHeartbeats 400000 in
theorem log2_any (x : Nat) (out : Nat) (w : World) (h : log2F x = some out) : Calls Try.prog 34 #[.float .f64 x] w fun e w' => e = .returned (.float .f64 out) ∧ w = w' := by
  unfold log2F at h
  simp only [Option.bind_eq_some_iff, Prod.exists] at h
  obtain ⟨f, k, e1, _u2, e2, l, e3, m, e4, kf, e5, r, e6, hout⟩ := h
  have ho0 := Option.some.inj hout
  have q1 := fun w => frexp_any x f k w e1
  have q2 : (FloatKind.f64.format.order f 4602678819172646912 == some .eq) = false := need_not e2
  have q3 := fun w => log_any f l w e3
  have q4 := fun w : World => run_float_arith (P := Try.prog) w .mul 22 .f64 l 4609176140021203710 m e4
  have q5 := Option.some.inj e5
  have q6 := fun w : World => run_float_arith (P := Try.prog) w .add 22 .f64 m kf r e6
  clear e1 e2 e3 e4 e5 e6 hout
  subst ho0
  have HX : ∀ w, Calls Try.prog 45 #[.float .f64 x] w fun e w' => e = .returned (.float .f64 r) ∧ w = w' := by
    intro w
    go_enter Try.func45, Try.ntmps45
    go_wp2_with (first | (go_at_call 62; refine (q1 w).mono ?_; rintro e w' ⟨rfl, rfl⟩) | (go_at_call 39; refine (q3 w).mono ?_; rintro e w' ⟨rfl, rfl⟩))
    go_ret
    exact ⟨rfl, rfl⟩
  go_enter Try.func34, Try.ntmps34
  go_wp2_with (go_at_call 45; refine (HX w).mono ?_; rintro e w' ⟨rfl, rfl⟩)
  go_ret
  exact ⟨rfl, rfl⟩

/-- The loop of pow, where it goes round once. -/
def PowRel (a1 a2 x1 : Nat) (xe : Int) (w wr : World) (v7 v8 v9 v10 v11 : Value) : Prop :=
  w = wr ∧ ((v11 = .int .i64 1 ∧ v7 = .float .f64 a1 ∧ v8 = .int .i64 0 ∧ v9 = .float .f64 x1 ∧ v10 = .int .i64 xe) ∨ (v11 = .int .i64 0 ∧ v7 = .float .f64 a2 ∧ v8 = .int .i64 xe ∧ ∃ f k, v9 = .float .f64 f ∧ v10 = .int .i64 k))

/-- ddsketch/pub/mathtwins.pow, plainly. -/
def powUpF (x : Nat) (y : Nat) : Option Nat :=
  (need (!(feq y 0))).bind fun _ =>
  (need (!(feq x 4607182418800017408))).bind fun _ =>
  (need (!(feq y 4607182418800017408))).bind fun _ =>
  (need (isNum x)).bind fun _ =>
  (need (isNum y)).bind fun _ =>
  (need (!(feq x 0))).bind fun _ =>
  (need (isFin y)).bind fun _ =>
  (need (isFin x)).bind fun _ =>
  (need (!(feq y 4602678819172646912))).bind fun _ =>
  (need (!(feq y 13826050856027422720))).bind fun _ =>
  (some (absF y)).bind fun ya =>
  (modfF ya).bind fun ⟨yi, yf⟩ =>
  (need (!(feq yf 0))).bind fun _ =>
  (need (!(flt x 0))).bind fun _ =>
  (need (!(fge yi 4890909195324358656))).bind fun _ =>
  (need (fgt yf 4602678819172646912)).bind fun _ =>
  (fsub yf 4607182418800017408).bind fun yg =>
  (fadd yi 4607182418800017408).bind fun yj =>
  (logF x).bind fun l =>
  (fmul yg l).bind fun m =>
  (expF m).bind fun a1 =>
  (frexpF x).bind fun ⟨x1, xe⟩ =>
  (floatToIntVal .f64 yj .i64).bind fun i =>
  (need (decide (i = 1) && (decide (-4096 ≤ xe) && decide (xe ≤ 4096)))).bind fun _ =>
  (fmul a1 x1).bind fun a2 =>
  (fmul x1 x1).bind fun x2 =>
  (fadd x2 x2).bind fun _x3 =>
  (need (!(flt y 0))).bind fun _ =>
  (ldexpF a2 xe).bind fun r =>
  some r

set_option maxRecDepth 100000 in
set_option maxHeartbeats 1000000 in
theorem powUp_any (x : Nat) (y : Nat) (out : Nat) (w : World) (h : powUpF x y = some out) : Calls Try.prog 33 #[.float .f64 x, .float .f64 y] w fun e w' => e = .returned (.float .f64 out) ∧ w = w' := by
  unfold powUpF at h
  simp only [Option.bind_eq_some_iff, Prod.exists] at h
  obtain ⟨_u1, e1, _u2, e2, _u3, e3, _u4, e4, _u5, e5, _u6, e6, _u7, e7, _u8, e8, _u9, e9, _u10, e10, ya, e11, yi, yf, e12, _u13, e13, _u15, e15, _u16, e16, _u17, e17, yg, e18, yj, e19, l, e20, m, e21, a1, e22, x1, xe, e23, i, e24, _u25, e25, a2, e31, x2, e32, _x3, e33, _u34, e34, r, e35, hout⟩ := h
  have ho0 := Option.some.inj hout
  have q1 : (FloatKind.f64.format.order y 0 == some .eq) = false := need_not e1
  have q2 : (FloatKind.f64.format.order x 4607182418800017408 == some .eq) = false := need_not e2
  have q3 : (FloatKind.f64.format.order y 4607182418800017408 == some .eq) = false := need_not e3
  have q4 := need_is e4
  have q5 := need_is e5
  have q6 : (FloatKind.f64.format.order x 0 == some .eq) = false := need_not e6
  have q7 := need_is e7
  have q8 := need_is e8
  have q9 : (FloatKind.f64.format.order y 4602678819172646912 == some .eq) = false := need_not e9
  have q10 : (FloatKind.f64.format.order y 13826050856027422720 == some .eq) = false := need_not e10
  have q11 := Option.some.inj e11
  have q12 := fun w => modf_any ya yi yf w e12
  have q13 : (FloatKind.f64.format.order yf 0 == some .eq) = false := need_not e13
  have hyf : (FloatKind.f64.format.order yf 0 != some .eq) = true := by simpa [bne] using q13
  have q15 : (FloatKind.f64.format.order x 0 == some .lt) = false := need_not e15
  have q16 : (FloatKind.f64.format.order yi 4890909195324358656 == some .gt || FloatKind.f64.format.order yi 4890909195324358656 == some .eq) = false := need_not e16
  have q17 : (FloatKind.f64.format.order yf 4602678819172646912 == some .gt) = true := need_is e17
  have q18 := fun w : World => run_float_arith (P := Try.prog) w .sub 22 .f64 yf 4607182418800017408 yg e18
  have q19 := fun w : World => run_float_arith (P := Try.prog) w .add 22 .f64 yi 4607182418800017408 yj e19
  have q20 := fun w => log_any x l w e20
  have q21 := fun w : World => run_float_arith (P := Try.prog) w .mul 22 .f64 yg l m e21
  have q22 := fun w => exp_any m a1 w e22
  have q23 := fun w => frexp_any x x1 xe w e23
  have q24 := fun w => run_convert_float_int (P := Try.prog) w 22 2 .f64 .i64 yj i (by simp [Try.underlying22]) Try.underlying2 e24
  have q25 := need_is e25
  obtain ⟨hi1, hb1, hb2⟩ : i = 1 ∧ -4096 ≤ xe ∧ xe ≤ 4096 := by simpa using q25
  have hn1 : ¬ xe < -4096 := by omega
  have hn2 : ¬ 4096 < xe := by omega
  have hwx : wrap64 xe = xe := by unfold wrap64; omega
  have hba : bits .and .i64 1 1 = 1 := by decide
  have q31 := fun w : World => run_float_arith (P := Try.prog) w .mul 22 .f64 a1 x1 a2 e31
  have q32 := fun w : World => run_float_arith (P := Try.prog) w .mul 22 .f64 x1 x1 x2 e32
  have q33 := fun w : World => run_float_arith (P := Try.prog) w .add 22 .f64 x2 x2 _x3 e33
  have q34 : (FloatKind.f64.format.order y 0 == some .lt) = false := need_not e34
  have q35 := fun w => ldexp_any a2 xe r w e35
  clear e1 e2 e3 e4 e5 e6 e7 e8 e9 e10 e11 e12 e13 e15 e16 e17 e18 e19 e20 e21 e22 e23 e24 e25 e31 e32 e33 e34 e35 hout
  subst ho0
  have hab : ∀ w, Calls Try.prog 59 #[.float .f64 y] w fun e w' => e = .returned (.float .f64 ya) ∧ w = w' := fun w => by rw [← q11]; exact abs_any y w
  clear q11
  subst hi1
  have HX : ∀ w, Calls Try.prog 44 #[.float .f64 x, .float .f64 y] w fun e w' => e = .returned (.float .f64 r) ∧ w = w' := by
    intro w
    go_enter Try.func44, Try.ntmps44
    go_wp2_with (first | (go_at_call 59; refine (hab w).mono ?_; rintro e w' ⟨rfl, rfl⟩) | (go_at_call 53; first | (with_reducible refine (isNaN_any x w q4).mono ?_; rintro e w' ⟨rfl, rfl⟩) | (with_reducible refine (isNaN_any y w q5).mono ?_; rintro e w' ⟨rfl, rfl⟩)) | (go_at_call 58; first | (with_reducible refine (isInf_any x w q8).mono ?_; rintro e w' ⟨rfl, rfl⟩) | (with_reducible refine (isInf_any y w q7).mono ?_; rintro e w' ⟨rfl, rfl⟩)) | (first | (go_at_call 61; refine (q12 w).mono ?_; rintro e w' ⟨rfl, rfl⟩) | (go_at_call 39; refine (q20 w).mono ?_; rintro e w' ⟨rfl, rfl⟩) | (go_at_call 41; refine (q22 w).mono ?_; rintro e w' ⟨rfl, rfl⟩) | (go_at_call 62; refine (q23 w).mono ?_; rintro e w' ⟨rfl, rfl⟩) | (go_at_call 63; refine (q35 w).mono ?_; rintro e w' ⟨rfl, rfl⟩)))
    go_loopw [7, 8, 9, 10, 11] (fun v7 v8 v9 v10 v11 wr => PowRel a1 a2 x1 xe w wr v7 v8 v9 v10 v11) (fun _ _ _ _ i _ => (intOf i).toNat)
    case atStart => exact ⟨rfl, .inl ⟨rfl, rfl, rfl, rfl, rfl⟩⟩
    case round =>
      obtain ⟨rfl, ⟨rfl, rfl, rfl, rfl, rfl⟩ | ⟨rfl, rfl, rfl, f, k, rfl, rfl⟩⟩ := hrel
      · cases hlt : (FloatKind.f64.format.order x2 4602678819172646912 == some .lt)
        · go_wp2_with fail
          exact ⟨⟨rfl, .inr ⟨rfl, rfl, rfl, _, _, rfl, rfl⟩⟩, by decide⟩
        · go_wp2_with fail
          exact ⟨⟨rfl, .inr ⟨rfl, rfl, rfl, _, _, rfl, rfl⟩⟩, by decide⟩
      · go_wp2_with (first | (first | (go_at_call 61; refine (q12 w).mono ?_; rintro e w' ⟨rfl, rfl⟩) | (go_at_call 39; refine (q20 w).mono ?_; rintro e w' ⟨rfl, rfl⟩) | (go_at_call 41; refine (q22 w).mono ?_; rintro e w' ⟨rfl, rfl⟩) | (go_at_call 62; refine (q23 w).mono ?_; rintro e w' ⟨rfl, rfl⟩) | (go_at_call 63; refine (q35 w).mono ?_; rintro e w' ⟨rfl, rfl⟩)))
        go_ret
        exact ⟨rfl, rfl⟩
  go_enter Try.func33, Try.ntmps33
  go_wp2_with (go_at_call 44; refine (HX w).mono ?_; rintro e w' ⟨rfl, rfl⟩)
  go_ret
  exact ⟨rfl, rfl⟩

/-- ddsketch/pub/mathtwins.pow, plainly. -/
def powDownF (x : Nat) (y : Nat) : Option Nat :=
  (need (!(feq y 0))).bind fun _ =>
  (need (!(feq x 4607182418800017408))).bind fun _ =>
  (need (!(feq y 4607182418800017408))).bind fun _ =>
  (need (isNum x)).bind fun _ =>
  (need (isNum y)).bind fun _ =>
  (need (!(feq x 0))).bind fun _ =>
  (need (isFin y)).bind fun _ =>
  (need (isFin x)).bind fun _ =>
  (need (!(feq y 4602678819172646912))).bind fun _ =>
  (need (!(feq y 13826050856027422720))).bind fun _ =>
  (some (absF y)).bind fun ya =>
  (modfF ya).bind fun ⟨yi, yf⟩ =>
  (need (!(feq yf 0))).bind fun _ =>
  (need (!(flt x 0))).bind fun _ =>
  (need (!(fge yi 4890909195324358656))).bind fun _ =>
  (need (!(fgt yf 4602678819172646912))).bind fun _ =>
  (logF x).bind fun l =>
  (fmul yf l).bind fun m =>
  (expF m).bind fun a1 =>
  (frexpF x).bind fun ⟨x1, xe⟩ =>
  (floatToIntVal .f64 yi .i64).bind fun i =>
  (need (decide (i = 1) && (decide (-4096 ≤ xe) && decide (xe ≤ 4096)))).bind fun _ =>
  (fmul a1 x1).bind fun a2 =>
  (fmul x1 x1).bind fun x2 =>
  (fadd x2 x2).bind fun _x3 =>
  (need (!(flt y 0))).bind fun _ =>
  (ldexpF a2 xe).bind fun r =>
  some r

set_option maxRecDepth 100000 in
set_option maxHeartbeats 1000000 in
theorem powDown_any (x : Nat) (y : Nat) (out : Nat) (w : World) (h : powDownF x y = some out) : Calls Try.prog 33 #[.float .f64 x, .float .f64 y] w fun e w' => e = .returned (.float .f64 out) ∧ w = w' := by
  unfold powDownF at h
  simp only [Option.bind_eq_some_iff, Prod.exists] at h
  obtain ⟨_u1, e1, _u2, e2, _u3, e3, _u4, e4, _u5, e5, _u6, e6, _u7, e7, _u8, e8, _u9, e9, _u10, e10, ya, e11, yi, yf, e12, _u13, e13, _u15, e15, _u16, e16, _u17, e17, l, e18, m, e19, a1, e20, x1, xe, e21, i, e22, _u23, e23, a2, e29, x2, e30, _x3, e31, _u32, e32, r, e33, hout⟩ := h
  have ho0 := Option.some.inj hout
  have q1 : (FloatKind.f64.format.order y 0 == some .eq) = false := need_not e1
  have q2 : (FloatKind.f64.format.order x 4607182418800017408 == some .eq) = false := need_not e2
  have q3 : (FloatKind.f64.format.order y 4607182418800017408 == some .eq) = false := need_not e3
  have q4 := need_is e4
  have q5 := need_is e5
  have q6 : (FloatKind.f64.format.order x 0 == some .eq) = false := need_not e6
  have q7 := need_is e7
  have q8 := need_is e8
  have q9 : (FloatKind.f64.format.order y 4602678819172646912 == some .eq) = false := need_not e9
  have q10 : (FloatKind.f64.format.order y 13826050856027422720 == some .eq) = false := need_not e10
  have q11 := Option.some.inj e11
  have q12 := fun w => modf_any ya yi yf w e12
  have q13 : (FloatKind.f64.format.order yf 0 == some .eq) = false := need_not e13
  have hyf : (FloatKind.f64.format.order yf 0 != some .eq) = true := by simpa [bne] using q13
  have q15 : (FloatKind.f64.format.order x 0 == some .lt) = false := need_not e15
  have q16 : (FloatKind.f64.format.order yi 4890909195324358656 == some .gt || FloatKind.f64.format.order yi 4890909195324358656 == some .eq) = false := need_not e16
  have q17 : (FloatKind.f64.format.order yf 4602678819172646912 == some .gt) = false := need_not e17
  have q18 := fun w => log_any x l w e18
  have q19 := fun w : World => run_float_arith (P := Try.prog) w .mul 22 .f64 yf l m e19
  have q20 := fun w => exp_any m a1 w e20
  have q21 := fun w => frexp_any x x1 xe w e21
  have q22 := fun w => run_convert_float_int (P := Try.prog) w 22 2 .f64 .i64 yi i (by simp [Try.underlying22]) Try.underlying2 e22
  have q23 := need_is e23
  obtain ⟨hi1, hb1, hb2⟩ : i = 1 ∧ -4096 ≤ xe ∧ xe ≤ 4096 := by simpa using q23
  have hn1 : ¬ xe < -4096 := by omega
  have hn2 : ¬ 4096 < xe := by omega
  have hwx : wrap64 xe = xe := by unfold wrap64; omega
  have hba : bits .and .i64 1 1 = 1 := by decide
  have q29 := fun w : World => run_float_arith (P := Try.prog) w .mul 22 .f64 a1 x1 a2 e29
  have q30 := fun w : World => run_float_arith (P := Try.prog) w .mul 22 .f64 x1 x1 x2 e30
  have q31 := fun w : World => run_float_arith (P := Try.prog) w .add 22 .f64 x2 x2 _x3 e31
  have q32 : (FloatKind.f64.format.order y 0 == some .lt) = false := need_not e32
  have q33 := fun w => ldexp_any a2 xe r w e33
  clear e1 e2 e3 e4 e5 e6 e7 e8 e9 e10 e11 e12 e13 e15 e16 e17 e18 e19 e20 e21 e22 e23 e29 e30 e31 e32 e33 hout
  subst ho0
  have hab : ∀ w, Calls Try.prog 59 #[.float .f64 y] w fun e w' => e = .returned (.float .f64 ya) ∧ w = w' := fun w => by rw [← q11]; exact abs_any y w
  clear q11
  subst hi1
  have HX : ∀ w, Calls Try.prog 44 #[.float .f64 x, .float .f64 y] w fun e w' => e = .returned (.float .f64 r) ∧ w = w' := by
    intro w
    go_enter Try.func44, Try.ntmps44
    go_wp2_with (first | (go_at_call 59; refine (hab w).mono ?_; rintro e w' ⟨rfl, rfl⟩) | (go_at_call 53; first | (with_reducible refine (isNaN_any x w q4).mono ?_; rintro e w' ⟨rfl, rfl⟩) | (with_reducible refine (isNaN_any y w q5).mono ?_; rintro e w' ⟨rfl, rfl⟩)) | (go_at_call 58; first | (with_reducible refine (isInf_any x w q8).mono ?_; rintro e w' ⟨rfl, rfl⟩) | (with_reducible refine (isInf_any y w q7).mono ?_; rintro e w' ⟨rfl, rfl⟩)) | (first | (go_at_call 61; refine (q12 w).mono ?_; rintro e w' ⟨rfl, rfl⟩) | (go_at_call 39; refine (q18 w).mono ?_; rintro e w' ⟨rfl, rfl⟩) | (go_at_call 41; refine (q20 w).mono ?_; rintro e w' ⟨rfl, rfl⟩) | (go_at_call 62; refine (q21 w).mono ?_; rintro e w' ⟨rfl, rfl⟩) | (go_at_call 63; refine (q33 w).mono ?_; rintro e w' ⟨rfl, rfl⟩)))
    go_loopw [7, 8, 9, 10, 11] (fun v7 v8 v9 v10 v11 wr => PowRel a1 a2 x1 xe w wr v7 v8 v9 v10 v11) (fun _ _ _ _ i _ => (intOf i).toNat)
    case atStart => exact ⟨rfl, .inl ⟨rfl, rfl, rfl, rfl, rfl⟩⟩
    case round =>
      obtain ⟨rfl, ⟨rfl, rfl, rfl, rfl, rfl⟩ | ⟨rfl, rfl, rfl, f, k, rfl, rfl⟩⟩ := hrel
      · cases hlt : (FloatKind.f64.format.order x2 4602678819172646912 == some .lt)
        · go_wp2_with fail
          exact ⟨⟨rfl, .inr ⟨rfl, rfl, rfl, _, _, rfl, rfl⟩⟩, by decide⟩
        · go_wp2_with fail
          exact ⟨⟨rfl, .inr ⟨rfl, rfl, rfl, _, _, rfl, rfl⟩⟩, by decide⟩
      · go_wp2_with (first | (first | (go_at_call 61; refine (q12 w).mono ?_; rintro e w' ⟨rfl, rfl⟩) | (go_at_call 39; refine (q18 w).mono ?_; rintro e w' ⟨rfl, rfl⟩) | (go_at_call 41; refine (q20 w).mono ?_; rintro e w' ⟨rfl, rfl⟩) | (go_at_call 62; refine (q21 w).mono ?_; rintro e w' ⟨rfl, rfl⟩) | (go_at_call 63; refine (q33 w).mono ?_; rintro e w' ⟨rfl, rfl⟩)))
        go_ret
        exact ⟨rfl, rfl⟩
  go_enter Try.func33, Try.ntmps33
  go_wp2_with (go_at_call 44; refine (HX w).mono ?_; rintro e w' ⟨rfl, rfl⟩)
  go_ret
  exact ⟨rfl, rfl⟩

def powF (x y : Nat) : Option Nat := (powUpF x y).or (powDownF x y)
theorem pow_any (x y out : Nat) (w : World) (h : powF x y = some out) : Calls Try.prog 33 #[.float .f64 x, .float .f64 y] w fun e w' => e = .returned (.float .f64 out) ∧ w = w' := by
  unfold powF at h
  rcases Option.or_eq_some_iff.1 h with h | ⟨_, h⟩
  · exact powUp_any x y out w h
  · exact powDown_any x y out w h
end Go.Proofs.Ytgommnmmifgbgaa
end
/-
  Max and Min as the mappings use them.
-/
section
namespace Go.Proofs.Ytgommnmmifgbgaa
open Go.RowKit

/-- The other sign: its digits unseen. -/
def negF (x : Nat) : Nat := Op.negFloat .f64 x
@[go_sem] theorem unary_neg_float (x : Nat) : Op.unary .neg (.float .f64 x) = pure (.float .f64 (negF x)) := rfl

set_option maxRecDepth 100000 in
theorem isNegInf_any (x : Nat) (w : World) (h : fgt (negF x) 9218868437227405311 = false) : Calls Try.prog 58 #[.float .f64 x, .int .i64 (-1)] w fun e w' => e = .returned (.bool false) ∧ w = w' := by
  have h' : (FloatKind.f64.format.order (negF x) 9218868437227405311 == some .gt) = false := h
  clear h
  go_enter Try.func58, Try.ntmps58
  go_wp2
  go_ret
  exact ⟨rfl, rfl⟩

set_option maxRecDepth 100000 in
theorem min_any (y : Nat) (w : World) (h1 : fgt (negF y) 9218868437227405311 = false) (h2 : isNum y = true) (h4 : flt 9218868437227405312 y = false) : Calls Try.prog 42 #[.float .f64 9218868437227405312, .float .f64 y] w fun e w' => e = .returned (.float .f64 y) ∧ w = w' := by
  have k4 : (FloatKind.f64.format.order 9218868437227405312 y == some .lt) = false := h4
  have k0 : (FloatKind.f64.format.order 9218868437227405312 0 == some .eq) = false := by decide +kernel
  have HN := fun w => isNaN_any y w h2
  have HI := fun w => isNegInf_any y w h1
  have HN0 := fun w => isNaN_any 9218868437227405312 w (by decide +kernel)
  have HI0 := fun w => isNegInf_any 9218868437227405312 w (by decide +kernel)
  clear h1 h2 h4
  have HX : ∀ w, Calls Try.prog 51 #[.float .f64 9218868437227405312, .float .f64 y] w fun e w' => e = .returned (.float .f64 y) ∧ w = w' := by
    intro w
    go_enter Try.func51, Try.ntmps51
    go_wp2_with (first | (go_at_call 53; first | (with_reducible refine (HN0 w).mono ?_; rintro e w' ⟨rfl, rfl⟩) | (with_reducible refine (HN w).mono ?_; rintro e w' ⟨rfl, rfl⟩)) | (go_at_call 58; first | (with_reducible refine (HI0 w).mono ?_; rintro e w' ⟨rfl, rfl⟩) | (with_reducible refine (HI w).mono ?_; rintro e w' ⟨rfl, rfl⟩)))
    go_ret
    exact ⟨rfl, rfl⟩
  go_enter Try.func42, Try.ntmps42
  go_wp2_with (go_at_call 51; refine (HX w).mono ?_; rintro e w' ⟨rfl, rfl⟩)
  go_ret
  exact ⟨rfl, rfl⟩

set_option maxRecDepth 100000 in
theorem max_any (y : Nat) (w : World) (h1 : fgt y 9218868437227405311 = false) (h2 : isNum y = true) (h3 : feq 0 y = false) (h4 : fgt 0 y = false) : Calls Try.prog 40 #[.float .f64 0, .float .f64 y] w fun e w' => e = .returned (.float .f64 y) ∧ w = w' := by
  have k3 : (FloatKind.f64.format.order 0 y == some .eq) = false := h3
  have k4 : (FloatKind.f64.format.order 0 y == some .gt) = false := h4
  have k0 : (FloatKind.f64.format.order 0 0 == some .eq) = true := by decide +kernel
  have HN := fun w => isNaN_any y w h2
  have HI := fun w => isPosInf_any y w h1
  have HN0 := fun w => isNaN_any 0 w (by decide +kernel)
  have HI0 := fun w => isPosInf_any 0 w (by decide +kernel)
  clear h1 h2 h3 h4
  have HX : ∀ w, Calls Try.prog 49 #[.float .f64 0, .float .f64 y] w fun e w' => e = .returned (.float .f64 y) ∧ w = w' := by
    intro w
    go_enter Try.func49, Try.ntmps49
    go_wp2_with (first | (go_at_call 53; first | (with_reducible refine (HN0 w).mono ?_; rintro e w' ⟨rfl, rfl⟩) | (with_reducible refine (HN w).mono ?_; rintro e w' ⟨rfl, rfl⟩)) | (go_at_call 58; first | (with_reducible refine (HI0 w).mono ?_; rintro e w' ⟨rfl, rfl⟩) | (with_reducible refine (HI w).mono ?_; rintro e w' ⟨rfl, rfl⟩)))
    go_ret
    exact ⟨rfl, rfl⟩
  go_enter Try.func40, Try.ntmps40
  go_wp2_with (go_at_call 49; refine (HX w).mono ?_; rintro e w' ⟨rfl, rfl⟩)
  go_ret
  exact ⟨rfl, rfl⟩
end Go.Proofs.Ytgommnmmifgbgaa
end
/-
  The mappings' small functions: exponent, significand, a float built of both; Floor.
-/
section
namespace Go.Proofs.Ytgommnmmifgbgaa
open Go.RowKit

theorem quiet_of_eq {P : Program} {f : FuncId} {args : Array Value} {w : World} {n : Nat} {v : Value}
    (h : Calls P f args (w.drewN n) fun e w' => e = .returned v ∧ w.drewN n = w') : Calls P f args (w.drewN n) fun e w'' => e = .returned v ∧ ∃ m, w'' = w.drewN m :=
  h.mono fun _ _ ⟨he, hm⟩ => ⟨he, n, hm.symm⟩

/-- The exponent of a float's bits, as a float. -/
def expoF (y : Int) : Nat := floatOfInt .f64 (wrap64 (wrap64 (bits .and .u64 y 9218868437227405312 / 4503599627370496) - 1023))

set_option maxRecDepth 100000 in
theorem expo_any (y : Int) (w : World) : Calls Try.prog 113 #[.int .u64 y] w fun e w' => e = .returned (.float .f64 (expoF y)) ∧ w = w' := by
  go_enter Try.func113, Try.ntmps113
  go_wp2
  go_ret
  exact ⟨rfl, rfl⟩

/-- The significand of a float's bits, from one up to two. -/
def signiF (y : Int) : Nat := (bits .or .u64 (bits .and .u64 y 4503599627370495) 4607182418800017408).toNat

set_option maxRecDepth 100000 in
theorem signi_any (y : Int) (w : World) : Calls Try.prog 114 #[.int .u64 y] w fun e w' => e = .returned (.float .f64 (signiF y)) ∧ w = w' := by
  go_enter Try.func114, Try.ntmps114
  go_wp2_with (go_at_call 46; refine (twinFrom_any _ w).mono ?_; rintro e w' ⟨rfl, rfl⟩)
  go_ret
  exact ⟨rfl, rfl⟩

/-- A float of an exponent and a significand. -/
def builtF (k : Int) (x : Nat) : Nat := (bits .or .u64 (bits .and .u64 (IntKind.u64.wrap (wrap64 (wrap64 (k + 1023) * 4503599627370496))) 9218868437227405312) (bits .and .u64 (x : Int) 4503599627370495)).toNat

set_option maxRecDepth 100000 in
theorem built_any (k : Int) (x : Nat) (w : World) : Calls Try.prog 116 #[.int .i64 k, .float .f64 x] w fun e w' => e = .returned (.float .f64 (builtF k x)) ∧ w = w' := by
  go_enter Try.func116, Try.ntmps116
  go_wp2_with (first | (go_at_call 66; refine (twinBits_any _ w).mono ?_; rintro e w' ⟨rfl, rfl⟩) | (go_at_call 46; refine (twinFrom_any _ w).mono ?_; rintro e w' ⟨rfl, rfl⟩))
  go_ret
  exact ⟨rfl, rfl⟩
end Go.Proofs.Ytgommnmmifgbgaa
end
/-
  Floor; the mappings' approximate logs. (Printed by gen_idx.py.)
-/
section
namespace Go.Proofs.Ytgommnmmifgbgaa
open Go.RowKit

/-- ddsketch/pub/mathtwins.floor, plainly. -/
def floorPosF (x : Nat) : Option Nat :=
  (need (!(feq x 0))).bind fun _ =>
  (need (isNum x)).bind fun _ =>
  (need (isFin x)).bind fun _ =>
  (need (!(flt x 0))).bind fun _ =>
  (modfF x).bind fun ⟨d, _fr⟩ =>
  some d

set_option maxRecDepth 100000 in
set_option maxHeartbeats 400000 in
theorem floorPos_any (x : Nat) (out : Nat) (w : World) (h : floorPosF x = some out) : Calls Try.prog 115 #[.float .f64 x] w fun e w' => e = .returned (.float .f64 out) ∧ w = w' := by
  unfold floorPosF at h
  simp only [Option.bind_eq_some_iff, Prod.exists] at h
  obtain ⟨_u1, e1, _u2, e2, _u3, e3, _u4, e4, d, _fr, e5, hout⟩ := h
  have ho0 := Option.some.inj hout
  have q1 : (FloatKind.f64.format.order x 0 == some .eq) = false := need_not e1
  have q2 := need_is e2
  have q3 := need_is e3
  have q4 : (FloatKind.f64.format.order x 0 == some .lt) = false := need_not e4
  have q5 := fun w => modf_any x d _fr w e5
  clear e1 e2 e3 e4 e5 hout
  subst ho0
  have HX : ∀ w, Calls Try.prog 117 #[.float .f64 x] w fun e w' => e = .returned (.float .f64 d) ∧ w = w' := by
    intro w
    go_enter Try.func117, Try.ntmps117
    go_wp2_with (first | (go_at_call 61; refine (q5 w).mono ?_; rintro e w' ⟨rfl, rfl⟩) | (go_at_call 53; refine (isNaN_any x w q2).mono ?_; rintro e w' ⟨rfl, rfl⟩) | (go_at_call 58; refine (isInf_any x w q3).mono ?_; rintro e w' ⟨rfl, rfl⟩))
    go_ret
    exact ⟨rfl, rfl⟩
  go_enter Try.func115, Try.ntmps115
  go_wp2_with (go_at_call 117; refine (HX w).mono ?_; rintro e w' ⟨rfl, rfl⟩)
  go_ret
  exact ⟨rfl, rfl⟩

/-- ddsketch/pub/mathtwins.floor, plainly. -/
def floorFracF (x : Nat) : Option Nat :=
  (need (!(feq x 0))).bind fun _ =>
  (need (isNum x)).bind fun _ =>
  (need (isFin x)).bind fun _ =>
  (need (flt x 0)).bind fun _ =>
  (modfF (negF x)).bind fun ⟨d, fr⟩ =>
  (need (!(feq fr 0))).bind fun _ =>
  (fadd d 4607182418800017408).bind fun d1 =>
  some (negF d1)

set_option maxRecDepth 100000 in
set_option maxHeartbeats 400000 in
theorem floorFrac_any (x : Nat) (out : Nat) (w : World) (h : floorFracF x = some out) : Calls Try.prog 115 #[.float .f64 x] w fun e w' => e = .returned (.float .f64 out) ∧ w = w' := by
  unfold floorFracF at h
  simp only [Option.bind_eq_some_iff, Prod.exists] at h
  obtain ⟨_u1, e1, _u2, e2, _u3, e3, _u4, e4, d, fr, e5, _u6, e6, d1, e8, hout⟩ := h
  have ho0 := Option.some.inj hout
  have q1 : (FloatKind.f64.format.order x 0 == some .eq) = false := need_not e1
  have q2 := need_is e2
  have q3 := need_is e3
  have q4 : (FloatKind.f64.format.order x 0 == some .lt) = true := need_is e4
  have q5 := fun w => modf_any (negF x) d fr w e5
  have q6 : (FloatKind.f64.format.order fr 0 == some .eq) = false := need_not e6
  have hne : (FloatKind.f64.format.order fr 0 != some .eq) = true := by simpa [bne] using q6
  have q8 := fun w : World => run_float_arith (P := Try.prog) w .add 22 .f64 d 4607182418800017408 d1 e8
  clear e1 e2 e3 e4 e5 e6 e8 hout
  subst ho0
  have HX : ∀ w, Calls Try.prog 117 #[.float .f64 x] w fun e w' => e = .returned (.float .f64 (negF d1)) ∧ w = w' := by
    intro w
    go_enter Try.func117, Try.ntmps117
    go_wp2_with (first | (go_at_call 61; refine (q5 w).mono ?_; rintro e w' ⟨rfl, rfl⟩) | (go_at_call 53; refine (isNaN_any x w q2).mono ?_; rintro e w' ⟨rfl, rfl⟩) | (go_at_call 58; refine (isInf_any x w q3).mono ?_; rintro e w' ⟨rfl, rfl⟩))
    go_ret
    exact ⟨rfl, rfl⟩
  go_enter Try.func115, Try.ntmps115
  go_wp2_with (go_at_call 117; refine (HX w).mono ?_; rintro e w' ⟨rfl, rfl⟩)
  go_ret
  exact ⟨rfl, rfl⟩

/-- ddsketch/pub/mathtwins.floor, plainly. -/
def floorWholeF (x : Nat) : Option Nat :=
  (need (!(feq x 0))).bind fun _ =>
  (need (isNum x)).bind fun _ =>
  (need (isFin x)).bind fun _ =>
  (need (flt x 0)).bind fun _ =>
  (modfF (negF x)).bind fun ⟨d, fr⟩ =>
  (need (feq fr 0)).bind fun _ =>
  some (negF d)

set_option maxRecDepth 100000 in
set_option maxHeartbeats 400000 in
theorem floorWhole_any (x : Nat) (out : Nat) (w : World) (h : floorWholeF x = some out) : Calls Try.prog 115 #[.float .f64 x] w fun e w' => e = .returned (.float .f64 out) ∧ w = w' := by
  unfold floorWholeF at h
  simp only [Option.bind_eq_some_iff, Prod.exists] at h
  obtain ⟨_u1, e1, _u2, e2, _u3, e3, _u4, e4, d, fr, e5, _u6, e6, hout⟩ := h
  have ho0 := Option.some.inj hout
  have q1 : (FloatKind.f64.format.order x 0 == some .eq) = false := need_not e1
  have q2 := need_is e2
  have q3 := need_is e3
  have q4 : (FloatKind.f64.format.order x 0 == some .lt) = true := need_is e4
  have q5 := fun w => modf_any (negF x) d fr w e5
  have q6 : (FloatKind.f64.format.order fr 0 == some .eq) = true := need_is e6
  have hne : (FloatKind.f64.format.order fr 0 != some .eq) = false := by simpa [bne] using q6
  clear e1 e2 e3 e4 e5 e6 hout
  subst ho0
  have HX : ∀ w, Calls Try.prog 117 #[.float .f64 x] w fun e w' => e = .returned (.float .f64 (negF d)) ∧ w = w' := by
    intro w
    go_enter Try.func117, Try.ntmps117
    go_wp2_with (first | (go_at_call 61; refine (q5 w).mono ?_; rintro e w' ⟨rfl, rfl⟩) | (go_at_call 53; refine (isNaN_any x w q2).mono ?_; rintro e w' ⟨rfl, rfl⟩) | (go_at_call 58; refine (isInf_any x w q3).mono ?_; rintro e w' ⟨rfl, rfl⟩))
    go_ret
    exact ⟨rfl, rfl⟩
  go_enter Try.func115, Try.ntmps115
  go_wp2_with (go_at_call 117; refine (HX w).mono ?_; rintro e w' ⟨rfl, rfl⟩)
  go_ret
  exact ⟨rfl, rfl⟩

/-- ddsketch/pub/mathtwins.floor, plainly. -/
def floorZeroF (x : Nat) : Option Nat :=
  (need (feq x 0)).bind fun _ =>
  some x

set_option maxRecDepth 100000 in
set_option maxHeartbeats 400000 in
theorem floorZero_any (x : Nat) (out : Nat) (w : World) (h : floorZeroF x = some out) : Calls Try.prog 115 #[.float .f64 x] w fun e w' => e = .returned (.float .f64 out) ∧ w = w' := by
  unfold floorZeroF at h
  simp only [Option.bind_eq_some_iff] at h
  obtain ⟨_u1, e1, hout⟩ := h
  have ho0 := Option.some.inj hout
  have q1 : (FloatKind.f64.format.order x 0 == some .eq) = true := need_is e1
  clear e1 hout
  subst ho0
  have HX : ∀ w, Calls Try.prog 117 #[.float .f64 x] w fun e w' => e = .returned (.float .f64 x) ∧ w = w' := by
    intro w
    go_enter Try.func117, Try.ntmps117
    go_wp2_with fail
    go_ret
    exact ⟨rfl, rfl⟩
  go_enter Try.func115, Try.ntmps115
  go_wp2_with (go_at_call 117; refine (HX w).mono ?_; rintro e w' ⟨rfl, rfl⟩)
  go_ret
  exact ⟨rfl, rfl⟩

def floorF (x : Nat) : Option Nat := (floorPosF x).or ((floorFracF x).or ((floorWholeF x).or (floorZeroF x)))
theorem floor_any (x : Nat) (out : Nat) (w : World) (h : floorF x = some out) : Calls Try.prog 115 #[.float .f64 x] w fun e w' => e = .returned (.float .f64 out) ∧ w = w' := by
  unfold floorF at h
  rcases Option.or_eq_some_iff.1 h with h | ⟨_, h⟩
  · exact floorPos_any x out w h
  rcases Option.or_eq_some_iff.1 h with h | ⟨_, h⟩
  · exact floorFrac_any x out w h
  rcases Option.or_eq_some_iff.1 h with h | ⟨_, h⟩
  · exact floorWhole_any x out w h
  exact floorZero_any x out w h

/-- (*ddsketch/pub/skmapping.LinearlyInterpolatedMapping).approximateLog, plainly. -/
def logLinF (x : Nat) : Option Nat :=
  (fadd (expoF (x : Int)) (signiF (x : Int))).bind fun a =>
  (fsub a 4607182418800017408).bind fun r =>
  some r

set_option maxRecDepth 100000 in
set_option maxHeartbeats 400000 in
theorem logLin_any (x : Nat) (out : Nat) (p : Value) (w : World) (h : logLinF x = some out) : Calls Try.prog 111 #[p, .float .f64 x] w fun e w' => e = .returned (.float .f64 out) ∧ w = w' := by
  unfold logLinF at h
  simp only [Option.bind_eq_some_iff] at h
  obtain ⟨a, e1, r, e2, hout⟩ := h
  have ho0 := Option.some.inj hout
  have q1 := fun w : World => run_float_arith (P := Try.prog) w .add 22 .f64 (expoF (x : Int)) (signiF (x : Int)) a e1
  have q2 := fun w : World => run_float_arith (P := Try.prog) w .sub 22 .f64 a 4607182418800017408 r e2
  clear e1 e2 hout
  subst ho0
  go_enter Try.func111, Try.ntmps111
  go_wp2_with (first | (go_at_call 66; refine (twinBits_any x w).mono ?_; rintro e w' ⟨rfl, rfl⟩) | (go_at_call 113; refine (expo_any _ w).mono ?_; rintro e w' ⟨rfl, rfl⟩) | (go_at_call 114; refine (signi_any _ w).mono ?_; rintro e w' ⟨rfl, rfl⟩))
  go_ret
  exact ⟨rfl, rfl⟩

/-- (*ddsketch/pub/skmapping.CubicallyInterpolatedMapping).approximateLog, plainly. -/
def logCubF (x : Nat) : Option Nat :=
  (fsub (signiF (x : Int)) 4607182418800017408).bind fun s =>
  (fmul 4595344385493786390 s).bind fun a1 =>
  (fadd a1 13826951575952896819).bind fun a2 =>
  (fmul a2 s).bind fun a3 =>
  (fadd a3 4609112532926033335).bind fun a4 =>
  (fmul a4 s).bind fun a5 =>
  (fadd a5 (expoF (x : Int))).bind fun r =>
  some r

set_option maxRecDepth 100000 in
set_option maxHeartbeats 400000 in
theorem logCub_any (x : Nat) (out : Nat) (p : Value) (w : World) (h : logCubF x = some out) : Calls Try.prog 126 #[p, .float .f64 x] w fun e w' => e = .returned (.float .f64 out) ∧ w = w' := by
  unfold logCubF at h
  simp only [Option.bind_eq_some_iff] at h
  obtain ⟨s, e1, a1, e2, a2, e3, a3, e4, a4, e5, a5, e6, r, e7, hout⟩ := h
  have ho0 := Option.some.inj hout
  have q1 := fun w : World => run_float_arith (P := Try.prog) w .sub 22 .f64 (signiF (x : Int)) 4607182418800017408 s e1
  have q2 := fun w : World => run_float_arith (P := Try.prog) w .mul 22 .f64 4595344385493786390 s a1 e2
  have q3 := fun w : World => run_float_arith (P := Try.prog) w .add 22 .f64 a1 13826951575952896819 a2 e3
  have q4 := fun w : World => run_float_arith (P := Try.prog) w .mul 22 .f64 a2 s a3 e4
  have q5 := fun w : World => run_float_arith (P := Try.prog) w .add 22 .f64 a3 4609112532926033335 a4 e5
  have q6 := fun w : World => run_float_arith (P := Try.prog) w .mul 22 .f64 a4 s a5 e6
  have q7 := fun w : World => run_float_arith (P := Try.prog) w .add 22 .f64 a5 (expoF (x : Int)) r e7
  clear e1 e2 e3 e4 e5 e6 e7 hout
  subst ho0
  go_enter Try.func126, Try.ntmps126
  go_wp2_with (first | (go_at_call 66; refine (twinBits_any x w).mono ?_; rintro e w' ⟨rfl, rfl⟩) | (go_at_call 113; refine (expo_any _ w).mono ?_; rintro e w' ⟨rfl, rfl⟩) | (go_at_call 114; refine (signi_any _ w).mono ?_; rintro e w' ⟨rfl, rfl⟩))
  go_ret
  exact ⟨rfl, rfl⟩

/-- (*ddsketch/pub/skmapping.LinearlyInterpolatedMapping).approximateInverseLog, plainly. -/
def invLinF (x : Nat) : Option Nat :=
  (floorF x).bind fun e =>
  (fsub x e).bind fun d =>
  (fadd d 4607182418800017408).bind fun s =>
  (floatToIntVal .f64 e .i64).bind fun k =>
  some (builtF k s)

set_option maxRecDepth 100000 in
set_option maxHeartbeats 400000 in
theorem invLin_any (x : Nat) (out : Nat) (p : Value) (w : World) (h : invLinF x = some out) : Calls Try.prog 112 #[p, .float .f64 x] w fun e w' => e = .returned (.float .f64 out) ∧ w = w' := by
  unfold invLinF at h
  simp only [Option.bind_eq_some_iff] at h
  obtain ⟨e, e1, d, e2, s, e3, k, e4, hout⟩ := h
  have ho0 := Option.some.inj hout
  have q1 := fun w => floor_any x e w e1
  have q2 := fun w : World => run_float_arith (P := Try.prog) w .sub 22 .f64 x e d e2
  have q3 := fun w : World => run_float_arith (P := Try.prog) w .add 22 .f64 d 4607182418800017408 s e3
  have q4 := fun w => run_convert_float_int (P := Try.prog) w 22 3 .f64 .i64 e k (by simp [Try.underlying22]) Try.underlying3 e4
  clear e1 e2 e3 e4 hout
  subst ho0
  go_enter Try.func112, Try.ntmps112
  go_wp2_with (first | (go_at_call 115; refine (q1 w).mono ?_; rintro e w' ⟨rfl, rfl⟩) | (go_at_call 116; refine (built_any k s w).mono ?_; rintro e w' ⟨rfl, rfl⟩))
  go_ret
  exact ⟨rfl, rfl⟩
end Go.Proofs.Ytgommnmmifgbgaa
end
/-
  Cbrt of a number below nought. (Printed by gen_idx4.py.)
-/
section
namespace Go.Proofs.Ytgommnmmifgbgaa
open Go.RowKit

/-- ddsketch/pub/mathtwins.cbrt, plainly. -/
def cbrtNegF (x : Nat) : Option Nat :=
  (need (!(feq x 0))).bind fun _ =>
  (need (isNum x)).bind fun _ =>
  (need (isFin x)).bind fun _ =>
  (need (flt x 0)).bind fun _ =>
  (some (negF x)).bind fun y =>
  (need (!(flt y 4503599627370496))).bind fun _ =>
  (some (IntKind.u64.wrap ((y : Int) / 3))).bind fun a0 =>
  (some (IntKind.u64.wrap (a0 + 3071306043645493248))).bind fun a1 =>
  (some (a1.toNat)).bind fun t0 =>
  (fmul t0 t0).bind fun tt =>
  (fdiv tt y).bind fun r =>
  (fmul r t0).bind fun rt =>
  (fadd 4603064841997850097 rt).bind fun s =>
  (fadd s 4609048195788499471).bind fun s1 =>
  (fdiv 13827900089180538932 s).bind fun ds =>
  (fadd s1 ds).bind fun s2 =>
  (fdiv 4609916747145206638 s2).bind fun fs =>
  (fadd 4600105333671292343 fs).bind fun g =>
  (fmul t0 g).bind fun t1 =>
  (some (bits .and .u64 (t1 : Int) 18446744072635809792)).bind fun c0 =>
  (some (IntKind.u64.wrap (c0 + 1073741824))).bind fun c1 =>
  (some (c1.toNat)).bind fun t2 =>
  (fmul t2 t2).bind fun s3 =>
  (fdiv y s3).bind fun r2 =>
  (fadd t2 t2).bind fun w0 =>
  (fsub r2 t2).bind fun n =>
  (fadd w0 r2).bind fun m =>
  (fdiv n m).bind fun qq =>
  (fmul t2 qq).bind fun tq =>
  (fadd t2 tq).bind fun t3 =>
  some (negF t3)

set_option maxRecDepth 100000 in
set_option maxHeartbeats 2000000 in
theorem cbrtNeg_any (x : Nat) (out : Nat) (w : World) (h : cbrtNegF x = some out) : Calls Try.prog 128 #[.float .f64 x] w fun e w' => e = .returned (.float .f64 out) ∧ w = w' := by
  unfold cbrtNegF at h
  simp only [Option.bind_eq_some_iff] at h
  obtain ⟨_u1, e1, _u2, e2, _u3, e3, _u4, e4, y, e5, _u6, e6, a0, e7, a1, e8, t0, e9, tt, e10, r, e11, rt, e12, s, e13, s1, e14, ds, e15, s2, e16, fs, e17, g, e18, t1, e19, c0, e20, c1, e21, t2, e22, s3, e23, r2, e24, w0, e25, n, e26, m, e27, qq, e28, tq, e29, t3, e30, hout⟩ := h
  have ho0 := Option.some.inj hout
  have q1 : (FloatKind.f64.format.order x 0 == some .eq) = false := need_not e1
  have q2 := need_is e2
  have q3 := need_is e3
  have q4 : (FloatKind.f64.format.order x 0 == some .lt) = true := need_is e4
  have q5 := Option.some.inj e5
  have q6 : (FloatKind.f64.format.order y 4503599627370496 == some .lt) = false := need_not e6
  have q7 := Option.some.inj e7
  have q8 := Option.some.inj e8
  have q9 := Option.some.inj e9
  have q10 := fun w : World => run_float_arith (P := Try.prog) w .mul 22 .f64 t0 t0 tt e10
  have q11 := fun w : World => run_float_arith (P := Try.prog) w .quo 22 .f64 tt y r e11
  have q12 := fun w : World => run_float_arith (P := Try.prog) w .mul 22 .f64 r t0 rt e12
  have q13 := fun w : World => run_float_arith (P := Try.prog) w .add 22 .f64 4603064841997850097 rt s e13
  have q14 := fun w : World => run_float_arith (P := Try.prog) w .add 22 .f64 s 4609048195788499471 s1 e14
  have q15 := fun w : World => run_float_arith (P := Try.prog) w .quo 22 .f64 13827900089180538932 s ds e15
  have q16 := fun w : World => run_float_arith (P := Try.prog) w .add 22 .f64 s1 ds s2 e16
  have q17 := fun w : World => run_float_arith (P := Try.prog) w .quo 22 .f64 4609916747145206638 s2 fs e17
  have q18 := fun w : World => run_float_arith (P := Try.prog) w .add 22 .f64 4600105333671292343 fs g e18
  have q19 := fun w : World => run_float_arith (P := Try.prog) w .mul 22 .f64 t0 g t1 e19
  have q20 := Option.some.inj e20
  have q21 := Option.some.inj e21
  have q22 := Option.some.inj e22
  have q23 := fun w : World => run_float_arith (P := Try.prog) w .mul 22 .f64 t2 t2 s3 e23
  have q24 := fun w : World => run_float_arith (P := Try.prog) w .quo 22 .f64 y s3 r2 e24
  have q25 := fun w : World => run_float_arith (P := Try.prog) w .add 22 .f64 t2 t2 w0 e25
  have q26 := fun w : World => run_float_arith (P := Try.prog) w .sub 22 .f64 r2 t2 n e26
  have q27 := fun w : World => run_float_arith (P := Try.prog) w .add 22 .f64 w0 r2 m e27
  have q28 := fun w : World => run_float_arith (P := Try.prog) w .quo 22 .f64 n m qq e28
  have q29 := fun w : World => run_float_arith (P := Try.prog) w .mul 22 .f64 t2 qq tq e29
  have q30 := fun w : World => run_float_arith (P := Try.prog) w .add 22 .f64 t2 tq t3 e30
  clear e1 e2 e3 e4 e5 e6 e7 e8 e9 e10 e11 e12 e13 e14 e15 e16 e17 e18 e19 e20 e21 e22 e23 e24 e25 e26 e27 e28 e29 e30 hout
  subst ho0
  have HX : ∀ w, Calls Try.prog 129 #[.float .f64 x] w fun e w' => e = .returned (.float .f64 (negF t3)) ∧ w = w' := by
    intro w
    go_enter Try.func129, Try.ntmps129
    go_wp2_with (first | (go_at_call 53; refine (isNaN_any x w q2).mono ?_; rintro e w' ⟨rfl, rfl⟩) | (go_at_call 58; refine (isInf_any x w q3).mono ?_; rintro e w' ⟨rfl, rfl⟩) | (go_at_call 66; refine (twinBits_any _ w).mono ?_; rintro e w' ⟨rfl, rfl⟩) | (go_at_call 46; refine (twinFrom_any _ w).mono ?_; rintro e w' ⟨rfl, rfl⟩))
    go_ret
    exact ⟨rfl, rfl⟩
  go_enter Try.func128, Try.ntmps128
  go_wp2_with (go_at_call 129; refine (HX w).mono ?_; rintro e w' ⟨rfl, rfl⟩)
  go_ret
  exact ⟨rfl, rfl⟩
end Go.Proofs.Ytgommnmmifgbgaa
end
