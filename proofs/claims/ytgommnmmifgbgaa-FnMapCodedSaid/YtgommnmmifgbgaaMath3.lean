/-
  Log and Exp whole; Log2; Pow with an exponent whose whole part comes to one; Max, Min. (Printed by gen_math3.py.)
-/
import Derived.Test.YtgommnmmifgbgaaMath2
namespace Go.Proofs.Ytgommnmmifgbgaa
open Go.RowKit

def logF (x : Nat) : Option Nat := (logLowF x).or (logHighF x)
theorem log_any (x out : Nat) (w : World) (h : logF x = some out) : Calls Try.prog 39 #[.float .f64 x] w fun e w' => e = .returned (.float .f64 out) ∧ w = w' := by
  unfold logF at h
  rcases Option.or_eq_some_iff.1 h with h | ⟨_, h⟩
  · exact logLow_any x out w h
  · exact logHigh_any x out w h
def expF (x : Nat) : Option Nat := (expPosF x).or ((expNegF x).or ((expZeroF x).or ((expOverF x).or (expUnderF x))))
theorem exp_any (x out : Nat) (w : World) (h : expF x = some out) : Calls Try.prog 41 #[.float .f64 x] w fun e w' => e = .returned (.float .f64 out) ∧ w = w' := by
  unfold expF at h
  rcases Option.or_eq_some_iff.1 h with h | ⟨_, h⟩
  · exact expPos_any x out w h
  rcases Option.or_eq_some_iff.1 h with h | ⟨_, h⟩
  · exact expNeg_any x out w h
  rcases Option.or_eq_some_iff.1 h with h | ⟨_, h⟩
  · exact expZero_any x out w h
  rcases Option.or_eq_some_iff.1 h with h | ⟨_, h⟩
  · exact expOver_any x out w h
  · exact expUnder_any x out w h
def exp2F (x : Nat) : Option Nat := (exp2OverF x).or (exp2UnderF x)
theorem exp2_any (x out : Nat) (w : World) (h : exp2F x = some out) : Calls Try.prog 43 #[.float .f64 x] w fun e w' => e = .returned (.float .f64 out) ∧ w = w' := by
  unfold exp2F at h
  rcases Option.or_eq_some_iff.1 h with h | ⟨_, h⟩
  · exact exp2Over_any x out w h
  · exact exp2Under_any x out w h

/-- ddsketch/pub/mathtwins.log2, plainly. -/
def log2F (x : Nat) : Option Nat :=
  (frexpF x).bind fun ⟨f, k⟩ =>
  (need (!(feq f 4602678819172646912))).bind fun _ =>
  (logF f).bind fun l =>
  (fmul l 4609176140021203710).bind fun m =>
  (some (floatOfInt .f64 k)).bind fun kf =>
  (fadd m kf).bind fun r =>
  some r

set_option maxRecDepth 100000 in
set_option maxHeartbeats 400000 in
theorem log2_any (x : Nat) (out : Nat) (w : World) (h : log2F x = some out) : Calls Try.prog 34 #[.float .f64 x] w fun e w' => e = .returned (.float .f64 out) ∧ w = w' := by
  unfold log2F at h
  simp only [Option.bind_eq_some_iff, Prod.exists] at h
  obtain ⟨f, k, e1, _u2, e2, l, e3, m, e4, kf, e5, r, e6, hout⟩ := h
  have ho0 := Option.some.inj hout
  have q1 := fun w => frexp_any x f k w e1
  have q2 : (FloatKind.f64.format.order f 4602678819172646912 == some .eq) = false := need_not e2
  have q3 := fun w => log_any f l w e3
  have q4 := fun w : World => run_float_arith (P := Try.prog) w .mul 22 .f64 l 4609176140021203710 m e4
  have q5 := Option.some.inj e5
  have q6 := fun w : World => run_float_arith (P := Try.prog) w .add 22 .f64 m kf r e6
  clear e1 e2 e3 e4 e5 e6 hout
  subst ho0
  have HX : ∀ w, Calls Try.prog 45 #[.float .f64 x] w fun e w' => e = .returned (.float .f64 r) ∧ w = w' := by
    intro w
    go_enter Try.func45, Try.ntmps45
    go_wp2_with (first | (go_at_call 62; refine (q1 w).mono ?_; rintro e w' ⟨rfl, rfl⟩) | (go_at_call 39; refine (q3 w).mono ?_; rintro e w' ⟨rfl, rfl⟩))
    go_ret
    exact ⟨rfl, rfl⟩
  go_enter Try.func34, Try.ntmps34
  go_wp2_with (go_at_call 45; refine (HX w).mono ?_; rintro e w' ⟨rfl, rfl⟩)
  go_ret
  exact ⟨rfl, rfl⟩

/-- The loop of pow, where it goes round once. -/
def PowRel (a1 a2 x1 : Nat) (xe : Int) (w wr : World) (v7 v8 v9 v10 v11 : Value) : Prop :=
  w = wr ∧ ((v11 = .int .i64 1 ∧ v7 = .float .f64 a1 ∧ v8 = .int .i64 0 ∧ v9 = .float .f64 x1 ∧ v10 = .int .i64 xe) ∨ (v11 = .int .i64 0 ∧ v7 = .float .f64 a2 ∧ v8 = .int .i64 xe ∧ ∃ f k, v9 = .float .f64 f ∧ v10 = .int .i64 k))

/-- ddsketch/pub/mathtwins.pow, plainly. -/
def powUpF (x : Nat) (y : Nat) : Option Nat :=
  (need (!(feq y 0))).bind fun _ =>
  (need (!(feq x 4607182418800017408))).bind fun _ =>
  (need (!(feq y 4607182418800017408))).bind fun _ =>
  (need (isNum x)).bind fun _ =>
  (need (isNum y)).bind fun _ =>
  (need (!(feq x 0))).bind fun _ =>
  (need (isFin y)).bind fun _ =>
  (need (isFin x)).bind fun _ =>
  (need (!(feq y 4602678819172646912))).bind fun _ =>
  (need (!(feq y 13826050856027422720))).bind fun _ =>
  (some (absF y)).bind fun ya =>
  (modfF ya).bind fun ⟨yi, yf⟩ =>
  (need (!(feq yf 0))).bind fun _ =>
  (need (!(flt x 0))).bind fun _ =>
  (need (!(fge yi 4890909195324358656))).bind fun _ =>
  (need (fgt yf 4602678819172646912)).bind fun _ =>
  (fsub yf 4607182418800017408).bind fun yg =>
  (fadd yi 4607182418800017408).bind fun yj =>
  (logF x).bind fun l =>
  (fmul yg l).bind fun m =>
  (expF m).bind fun a1 =>
  (frexpF x).bind fun ⟨x1, xe⟩ =>
  (floatToIntVal .f64 yj .i64).bind fun i =>
  (need (decide (i = 1) && (decide (-4096 ≤ xe) && decide (xe ≤ 4096)))).bind fun _ =>
  (fmul a1 x1).bind fun a2 =>
  (fmul x1 x1).bind fun x2 =>
  (fadd x2 x2).bind fun _x3 =>
  (need (!(flt y 0))).bind fun _ =>
  (ldexpF a2 xe).bind fun r =>
  some r

set_option maxRecDepth 100000 in
set_option maxHeartbeats 1000000 in
theorem powUp_any (x : Nat) (y : Nat) (out : Nat) (w : World) (h : powUpF x y = some out) : Calls Try.prog 33 #[.float .f64 x, .float .f64 y] w fun e w' => e = .returned (.float .f64 out) ∧ w = w' := by
  unfold powUpF at h
  simp only [Option.bind_eq_some_iff, Prod.exists] at h
  obtain ⟨_u1, e1, _u2, e2, _u3, e3, _u4, e4, _u5, e5, _u6, e6, _u7, e7, _u8, e8, _u9, e9, _u10, e10, ya, e11, yi, yf, e12, _u13, e13, _u15, e15, _u16, e16, _u17, e17, yg, e18, yj, e19, l, e20, m, e21, a1, e22, x1, xe, e23, i, e24, _u25, e25, a2, e31, x2, e32, _x3, e33, _u34, e34, r, e35, hout⟩ := h
  have ho0 := Option.some.inj hout
  have q1 : (FloatKind.f64.format.order y 0 == some .eq) = false := need_not e1
  have q2 : (FloatKind.f64.format.order x 4607182418800017408 == some .eq) = false := need_not e2
  have q3 : (FloatKind.f64.format.order y 4607182418800017408 == some .eq) = false := need_not e3
  have q4 := need_is e4
  have q5 := need_is e5
  have q6 : (FloatKind.f64.format.order x 0 == some .eq) = false := need_not e6
  have q7 := need_is e7
  have q8 := need_is e8
  have q9 : (FloatKind.f64.format.order y 4602678819172646912 == some .eq) = false := need_not e9
  have q10 : (FloatKind.f64.format.order y 13826050856027422720 == some .eq) = false := need_not e10
  have q11 := Option.some.inj e11
  have q12 := fun w => modf_any ya yi yf w e12
  have q13 : (FloatKind.f64.format.order yf 0 == some .eq) = false := need_not e13
  have hyf : (FloatKind.f64.format.order yf 0 != some .eq) = true := by simpa [bne] using q13
  have q15 : (FloatKind.f64.format.order x 0 == some .lt) = false := need_not e15
  have q16 : (FloatKind.f64.format.order yi 4890909195324358656 == some .gt || FloatKind.f64.format.order yi 4890909195324358656 == some .eq) = false := need_not e16
  have q17 : (FloatKind.f64.format.order yf 4602678819172646912 == some .gt) = true := need_is e17
  have q18 := fun w : World => run_float_arith (P := Try.prog) w .sub 22 .f64 yf 4607182418800017408 yg e18
  have q19 := fun w : World => run_float_arith (P := Try.prog) w .add 22 .f64 yi 4607182418800017408 yj e19
  have q20 := fun w => log_any x l w e20
  have q21 := fun w : World => run_float_arith (P := Try.prog) w .mul 22 .f64 yg l m e21
  have q22 := fun w => exp_any m a1 w e22
  have q23 := fun w => frexp_any x x1 xe w e23
  have q24 := fun w => run_convert_float_int (P := Try.prog) w 22 2 .f64 .i64 yj i (by simp [Try.underlying22]) Try.underlying2 e24
  have q25 := need_is e25
  obtain ⟨hi1, hb1, hb2⟩ : i = 1 ∧ -4096 ≤ xe ∧ xe ≤ 4096 := by simpa using q25
  have hn1 : ¬ xe < -4096 := by omega
  have hn2 : ¬ 4096 < xe := by omega
  have hwx : wrap64 xe = xe := by unfold wrap64; omega
  have hba : bits .and .i64 1 1 = 1 := by decide
  have q31 := fun w : World => run_float_arith (P := Try.prog) w .mul 22 .f64 a1 x1 a2 e31
  have q32 := fun w : World => run_float_arith (P := Try.prog) w .mul 22 .f64 x1 x1 x2 e32
  have q33 := fun w : World => run_float_arith (P := Try.prog) w .add 22 .f64 x2 x2 _x3 e33
  have q34 : (FloatKind.f64.format.order y 0 == some .lt) = false := need_not e34
  have q35 := fun w => ldexp_any a2 xe r w e35
  clear e1 e2 e3 e4 e5 e6 e7 e8 e9 e10 e11 e12 e13 e15 e16 e17 e18 e19 e20 e21 e22 e23 e24 e25 e31 e32 e33 e34 e35 hout
  subst ho0
  have hab : ∀ w, Calls Try.prog 59 #[.float .f64 y] w fun e w' => e = .returned (.float .f64 ya) ∧ w = w' := fun w => by rw [← q11]; exact abs_any y w
  clear q11
  subst hi1
  have HX : ∀ w, Calls Try.prog 44 #[.float .f64 x, .float .f64 y] w fun e w' => e = .returned (.float .f64 r) ∧ w = w' := by
    intro w
    go_enter Try.func44, Try.ntmps44
    go_wp2_with (first | (go_at_call 59; refine (hab w).mono ?_; rintro e w' ⟨rfl, rfl⟩) | (go_at_call 53; first | (with_reducible refine (isNaN_any x w q4).mono ?_; rintro e w' ⟨rfl, rfl⟩) | (with_reducible refine (isNaN_any y w q5).mono ?_; rintro e w' ⟨rfl, rfl⟩)) | (go_at_call 58; first | (with_reducible refine (isInf_any x w q8).mono ?_; rintro e w' ⟨rfl, rfl⟩) | (with_reducible refine (isInf_any y w q7).mono ?_; rintro e w' ⟨rfl, rfl⟩)) | (first | (go_at_call 61; refine (q12 w).mono ?_; rintro e w' ⟨rfl, rfl⟩) | (go_at_call 39; refine (q20 w).mono ?_; rintro e w' ⟨rfl, rfl⟩) | (go_at_call 41; refine (q22 w).mono ?_; rintro e w' ⟨rfl, rfl⟩) | (go_at_call 62; refine (q23 w).mono ?_; rintro e w' ⟨rfl, rfl⟩) | (go_at_call 63; refine (q35 w).mono ?_; rintro e w' ⟨rfl, rfl⟩)))
    go_loopw [7, 8, 9, 10, 11] (fun v7 v8 v9 v10 v11 wr => PowRel a1 a2 x1 xe w wr v7 v8 v9 v10 v11) (fun _ _ _ _ i _ => (intOf i).toNat)
    case atStart => exact ⟨rfl, .inl ⟨rfl, rfl, rfl, rfl, rfl⟩⟩
    case round =>
      obtain ⟨rfl, ⟨rfl, rfl, rfl, rfl, rfl⟩ | ⟨rfl, rfl, rfl, f, k, rfl, rfl⟩⟩ := hrel
      · cases hlt : (FloatKind.f64.format.order x2 4602678819172646912 == some .lt)
        · go_wp2_with fail
          exact ⟨⟨rfl, .inr ⟨rfl, rfl, rfl, _, _, rfl, rfl⟩⟩, by decide⟩
        · go_wp2_with fail
          exact ⟨⟨rfl, .inr ⟨rfl, rfl, rfl, _, _, rfl, rfl⟩⟩, by decide⟩
      · go_wp2_with (first | (first | (go_at_call 61; refine (q12 w).mono ?_; rintro e w' ⟨rfl, rfl⟩) | (go_at_call 39; refine (q20 w).mono ?_; rintro e w' ⟨rfl, rfl⟩) | (go_at_call 41; refine (q22 w).mono ?_; rintro e w' ⟨rfl, rfl⟩) | (go_at_call 62; refine (q23 w).mono ?_; rintro e w' ⟨rfl, rfl⟩) | (go_at_call 63; refine (q35 w).mono ?_; rintro e w' ⟨rfl, rfl⟩)))
        go_ret
        exact ⟨rfl, rfl⟩
  go_enter Try.func33, Try.ntmps33
  go_wp2_with (go_at_call 44; refine (HX w).mono ?_; rintro e w' ⟨rfl, rfl⟩)
  go_ret
  exact ⟨rfl, rfl⟩

/-- ddsketch/pub/mathtwins.pow, plainly. -/
def powDownF (x : Nat) (y : Nat) : Option Nat :=
  (need (!(feq y 0))).bind fun _ =>
  (need (!(feq x 4607182418800017408))).bind fun _ =>
  (need (!(feq y 4607182418800017408))).bind fun _ =>
  (need (isNum x)).bind fun _ =>
  (need (isNum y)).bind fun _ =>
  (need (!(feq x 0))).bind fun _ =>
  (need (isFin y)).bind fun _ =>
  (need (isFin x)).bind fun _ =>
  (need (!(feq y 4602678819172646912))).bind fun _ =>
  (need (!(feq y 13826050856027422720))).bind fun _ =>
  (some (absF y)).bind fun ya =>
  (modfF ya).bind fun ⟨yi, yf⟩ =>
  (need (!(feq yf 0))).bind fun _ =>
  (need (!(flt x 0))).bind fun _ =>
  (need (!(fge yi 4890909195324358656))).bind fun _ =>
  (need (!(fgt yf 4602678819172646912))).bind fun _ =>
  (logF x).bind fun l =>
  (fmul yf l).bind fun m =>
  (expF m).bind fun a1 =>
  (frexpF x).bind fun ⟨x1, xe⟩ =>
  (floatToIntVal .f64 yi .i64).bind fun i =>
  (need (decide (i = 1) && (decide (-4096 ≤ xe) && decide (xe ≤ 4096)))).bind fun _ =>
  (fmul a1 x1).bind fun a2 =>
  (fmul x1 x1).bind fun x2 =>
  (fadd x2 x2).bind fun _x3 =>
  (need (!(flt y 0))).bind fun _ =>
  (ldexpF a2 xe).bind fun r =>
  some r

set_option maxRecDepth 100000 in
set_option maxHeartbeats 1000000 in
theorem powDown_any (x : Nat) (y : Nat) (out : Nat) (w : World) (h : powDownF x y = some out) : Calls Try.prog 33 #[.float .f64 x, .float .f64 y] w fun e w' => e = .returned (.float .f64 out) ∧ w = w' := by
  unfold powDownF at h
  simp only [Option.bind_eq_some_iff, Prod.exists] at h
  obtain ⟨_u1, e1, _u2, e2, _u3, e3, _u4, e4, _u5, e5, _u6, e6, _u7, e7, _u8, e8, _u9, e9, _u10, e10, ya, e11, yi, yf, e12, _u13, e13, _u15, e15, _u16, e16, _u17, e17, l, e18, m, e19, a1, e20, x1, xe, e21, i, e22, _u23, e23, a2, e29, x2, e30, _x3, e31, _u32, e32, r, e33, hout⟩ := h
  have ho0 := Option.some.inj hout
  have q1 : (FloatKind.f64.format.order y 0 == some .eq) = false := need_not e1
  have q2 : (FloatKind.f64.format.order x 4607182418800017408 == some .eq) = false := need_not e2
  have q3 : (FloatKind.f64.format.order y 4607182418800017408 == some .eq) = false := need_not e3
  have q4 := need_is e4
  have q5 := need_is e5
  have q6 : (FloatKind.f64.format.order x 0 == some .eq) = false := need_not e6
  have q7 := need_is e7
  have q8 := need_is e8
  have q9 : (FloatKind.f64.format.order y 4602678819172646912 == some .eq) = false := need_not e9
  have q10 : (FloatKind.f64.format.order y 13826050856027422720 == some .eq) = false := need_not e10
  have q11 := Option.some.inj e11
  have q12 := fun w => modf_any ya yi yf w e12
  have q13 : (FloatKind.f64.format.order yf 0 == some .eq) = false := need_not e13
  have hyf : (FloatKind.f64.format.order yf 0 != some .eq) = true := by simpa [bne] using q13
  have q15 : (FloatKind.f64.format.order x 0 == some .lt) = false := need_not e15
  have q16 : (FloatKind.f64.format.order yi 4890909195324358656 == some .gt || FloatKind.f64.format.order yi 4890909195324358656 == some .eq) = false := need_not e16
  have q17 : (FloatKind.f64.format.order yf 4602678819172646912 == some .gt) = false := need_not e17
  have q18 := fun w => log_any x l w e18
  have q19 := fun w : World => run_float_arith (P := Try.prog) w .mul 22 .f64 yf l m e19
  have q20 := fun w => exp_any m a1 w e20
  have q21 := fun w => frexp_any x x1 xe w e21
  have q22 := fun w => run_convert_float_int (P := Try.prog) w 22 2 .f64 .i64 yi i (by simp [Try.underlying22]) Try.underlying2 e22
  have q23 := need_is e23
  obtain ⟨hi1, hb1, hb2⟩ : i = 1 ∧ -4096 ≤ xe ∧ xe ≤ 4096 := by simpa using q23
  have hn1 : ¬ xe < -4096 := by omega
  have hn2 : ¬ 4096 < xe := by omega
  have hwx : wrap64 xe = xe := by unfold wrap64; omega
  have hba : bits .and .i64 1 1 = 1 := by decide
  have q29 := fun w : World => run_float_arith (P := Try.prog) w .mul 22 .f64 a1 x1 a2 e29
  have q30 := fun w : World => run_float_arith (P := Try.prog) w .mul 22 .f64 x1 x1 x2 e30
  have q31 := fun w : World => run_float_arith (P := Try.prog) w .add 22 .f64 x2 x2 _x3 e31
  have q32 : (FloatKind.f64.format.order y 0 == some .lt) = false := need_not e32
  have q33 := fun w => ldexp_any a2 xe r w e33
  clear e1 e2 e3 e4 e5 e6 e7 e8 e9 e10 e11 e12 e13 e15 e16 e17 e18 e19 e20 e21 e22 e23 e29 e30 e31 e32 e33 hout
  subst ho0
  have hab : ∀ w, Calls Try.prog 59 #[.float .f64 y] w fun e w' => e = .returned (.float .f64 ya) ∧ w = w' := fun w => by rw [← q11]; exact abs_any y w
  clear q11
  subst hi1
  have HX : ∀ w, Calls Try.prog 44 #[.float .f64 x, .float .f64 y] w fun e w' => e = .returned (.float .f64 r) ∧ w = w' := by
    intro w
    go_enter Try.func44, Try.ntmps44
    go_wp2_with (first | (go_at_call 59; refine (hab w).mono ?_; rintro e w' ⟨rfl, rfl⟩) | (go_at_call 53; first | (with_reducible refine (isNaN_any x w q4).mono ?_; rintro e w' ⟨rfl, rfl⟩) | (with_reducible refine (isNaN_any y w q5).mono ?_; rintro e w' ⟨rfl, rfl⟩)) | (go_at_call 58; first | (with_reducible refine (isInf_any x w q8).mono ?_; rintro e w' ⟨rfl, rfl⟩) | (with_reducible refine (isInf_any y w q7).mono ?_; rintro e w' ⟨rfl, rfl⟩)) | (first | (go_at_call 61; refine (q12 w).mono ?_; rintro e w' ⟨rfl, rfl⟩) | (go_at_call 39; refine (q18 w).mono ?_; rintro e w' ⟨rfl, rfl⟩) | (go_at_call 41; refine (q20 w).mono ?_; rintro e w' ⟨rfl, rfl⟩) | (go_at_call 62; refine (q21 w).mono ?_; rintro e w' ⟨rfl, rfl⟩) | (go_at_call 63; refine (q33 w).mono ?_; rintro e w' ⟨rfl, rfl⟩)))
    go_loopw [7, 8, 9, 10, 11] (fun v7 v8 v9 v10 v11 wr => PowRel a1 a2 x1 xe w wr v7 v8 v9 v10 v11) (fun _ _ _ _ i _ => (intOf i).toNat)
    case atStart => exact ⟨rfl, .inl ⟨rfl, rfl, rfl, rfl, rfl⟩⟩
    case round =>
      obtain ⟨rfl, ⟨rfl, rfl, rfl, rfl, rfl⟩ | ⟨rfl, rfl, rfl, f, k, rfl, rfl⟩⟩ := hrel
      · cases hlt : (FloatKind.f64.format.order x2 4602678819172646912 == some .lt)
        · go_wp2_with fail
          exact ⟨⟨rfl, .inr ⟨rfl, rfl, rfl, _, _, rfl, rfl⟩⟩, by decide⟩
        · go_wp2_with fail
          exact ⟨⟨rfl, .inr ⟨rfl, rfl, rfl, _, _, rfl, rfl⟩⟩, by decide⟩
      · go_wp2_with (first | (first | (go_at_call 61; refine (q12 w).mono ?_; rintro e w' ⟨rfl, rfl⟩) | (go_at_call 39; refine (q18 w).mono ?_; rintro e w' ⟨rfl, rfl⟩) | (go_at_call 41; refine (q20 w).mono ?_; rintro e w' ⟨rfl, rfl⟩) | (go_at_call 62; refine (q21 w).mono ?_; rintro e w' ⟨rfl, rfl⟩) | (go_at_call 63; refine (q33 w).mono ?_; rintro e w' ⟨rfl, rfl⟩)))
        go_ret
        exact ⟨rfl, rfl⟩
  go_enter Try.func33, Try.ntmps33
  go_wp2_with (go_at_call 44; refine (HX w).mono ?_; rintro e w' ⟨rfl, rfl⟩)
  go_ret
  exact ⟨rfl, rfl⟩

def powF (x y : Nat) : Option Nat := (powUpF x y).or (powDownF x y)
theorem pow_any (x y out : Nat) (w : World) (h : powF x y = some out) : Calls Try.prog 33 #[.float .f64 x, .float .f64 y] w fun e w' => e = .returned (.float .f64 out) ∧ w = w' := by
  unfold powF at h
  rcases Option.or_eq_some_iff.1 h with h | ⟨_, h⟩
  · exact powUp_any x y out w h
  · exact powDown_any x y out w h
end Go.Proofs.Ytgommnmmifgbgaa
