/-
  The mappings, made. (Printed by gen_new.py.)
-/
import Derived.Test.YtgommnmmifgbgaaMath4
namespace Go.Proofs.Ytgommnmmifgbgaa
open Go.RowKit

/-- A mapping, made: a new block with its five numbers. -/
def Made (t : TypeId) (g off mult mn mx : Nat) (w : World) (e : Ending) (w' : World) : Prop :=
  ∃ p, e = .returned (.tuple #[.pointer (some ⟨p, 0, none⟩), .nilIface]) ∧ w.heap.size ≤ p ∧ w'.heap[p]? = some (.cells #[.float .f64 g, .float .f64 off, .float .f64 mult, .float .f64 mn, .float .f64 mx] t (0, 0)) ∧ Below w.heap.size w w'

/-- ddsketch/pub/skmapping.NewLogarithmicMappingWithGamma, plainly. -/
def newLogF (g : Nat) (off : Nat) : Option (Nat × Nat × Nat) :=
  (need (!(fle g 4607182418800017408))).bind fun _ =>
  (logF g).bind fun l =>
  (fdiv 4607182418800017408 l).bind fun mult =>
  (fsub 13970166044103278592 off).bind fun a1 =>
  (fdiv a1 mult).bind fun a2 =>
  (fadd a2 4607182418800017408).bind fun a3 =>
  (expF a3).bind fun ex1 =>
  (need (ex1 == 0)).bind fun _ =>
  (fmul 4503599627370496 g).bind fun mn =>
  (need (!(fgt mn 9218868437227405311))).bind fun _ =>
  (need (isNum mn)).bind fun _ =>
  (need (!(feq 0 mn))).bind fun _ =>
  (need (!(fgt 0 mn))).bind fun _ =>
  (fsub 4746794007244308480 off).bind fun c1 =>
  (fdiv c1 mult).bind fun c2 =>
  (fsub c2 4607182418800017408).bind fun c3 =>
  (expF c3).bind fun ex2 =>
  (need (ex2 == 9218868437227405312)).bind fun _ =>
  (expF 4649451482093607557).bind fun ex3 =>
  (fmul 4611686018427387904 g).bind fun d1 =>
  (fdiv ex3 d1).bind fun d2 =>
  (fadd g 4607182418800017408).bind fun d3 =>
  (fmul d2 d3).bind fun mx =>
  (need (!(fgt (negF mx) 9218868437227405311))).bind fun _ =>
  (need (isNum mx)).bind fun _ =>
  (need (!(flt 9218868437227405312 mx))).bind fun _ =>
  some (mult, mn, mx)

set_option maxRecDepth 100000 in
set_option maxHeartbeats 1000000 in
theorem newLog_any (g : Nat) (off : Nat) (out0 : Nat) (out1 : Nat) (out2 : Nat) (w : World) (h : newLogF g off = some (out0, out1, out2)) : Calls Try.prog 26 #[.float .f64 g, .float .f64 off] w fun e w' => Made 88 g off out0 out1 out2 w e w' := by
  unfold newLogF at h
  simp only [Option.bind_eq_some_iff] at h
  obtain ⟨_u1, e1, l, e2, mult, e3, a1, e4, a2, e5, a3, e6, ex1, e7, _u8, e8, mn, e11, _u12, e12, _u13, e13, _u14, e14, _u15, e15, c1, e16, c2, e17, c3, e18, ex2, e19, _u20, e20, ex3, e23, d1, e24, d2, e25, d3, e26, mx, e27, _u28, e28, _u29, e29, _u30, e30, hout⟩ := h
  simp only [Option.some.injEq, Prod.mk.injEq] at hout
  obtain ⟨ho0, ho1, ho2⟩ := hout
  have q1 : (FloatKind.f64.format.order g 4607182418800017408 == some .lt || FloatKind.f64.format.order g 4607182418800017408 == some .eq) = false := need_not e1
  have q2 := fun w => log_any g l w e2
  have q3 := fun w : World => run_float_arith (P := Try.prog) w .quo 22 .f64 4607182418800017408 l mult e3
  have q4 := fun w : World => run_float_arith (P := Try.prog) w .sub 22 .f64 13970166044103278592 off a1 e4
  have q5 := fun w : World => run_float_arith (P := Try.prog) w .quo 22 .f64 a1 mult a2 e5
  have q6 := fun w : World => run_float_arith (P := Try.prog) w .add 22 .f64 a2 4607182418800017408 a3 e6
  have q7 := fun w => exp_any a3 ex1 w e7
  have q8 := need_is e8
  have hx1 : ex1 = 0 := by simpa using q8
  subst hx1
  have q11 := fun w : World => run_float_arith (P := Try.prog) w .mul 22 .f64 4503599627370496 g mn e11
  have q12 : (FloatKind.f64.format.order mn 9218868437227405311 == some .gt) = false := need_not e12
  have q13 := need_is e13
  have q14 : (FloatKind.f64.format.order 0 mn == some .eq) = false := need_not e14
  have q15 : (FloatKind.f64.format.order 0 mn == some .gt) = false := need_not e15
  have q16 := fun w : World => run_float_arith (P := Try.prog) w .sub 22 .f64 4746794007244308480 off c1 e16
  have q17 := fun w : World => run_float_arith (P := Try.prog) w .quo 22 .f64 c1 mult c2 e17
  have q18 := fun w : World => run_float_arith (P := Try.prog) w .sub 22 .f64 c2 4607182418800017408 c3 e18
  have q19 := fun w => exp_any c3 ex2 w e19
  have q20 := need_is e20
  have hx2 : ex2 = 9218868437227405312 := by simpa using q20
  subst hx2
  have q23 := fun w => exp_any 4649451482093607557 ex3 w e23
  have q24 := fun w : World => run_float_arith (P := Try.prog) w .mul 22 .f64 4611686018427387904 g d1 e24
  have q25 := fun w : World => run_float_arith (P := Try.prog) w .quo 22 .f64 ex3 d1 d2 e25
  have q26 := fun w : World => run_float_arith (P := Try.prog) w .add 22 .f64 g 4607182418800017408 d3 e26
  have q27 := fun w : World => run_float_arith (P := Try.prog) w .mul 22 .f64 d2 d3 mx e27
  have q28 := need_not e28
  have q29 := need_is e29
  have q30 : (FloatKind.f64.format.order 9218868437227405312 mx == some .lt) = false := need_not e30
  clear e1 e2 e3 e4 e5 e6 e7 e8 e11 e12 e13 e14 e15 e16 e17 e18 e19 e20 e23 e24 e25 e26 e27 e28 e29 e30
  subst ho0 ho1 ho2
  have hmax := fun w => max_any mn w q12 q13 q14 q15
  have hmin := fun w => min_any mx w q28 q29 q30
  go_enter Try.func26, Try.ntmps26
  go_wp2_with (first | (go_at_call 40; with_reducible refine (hmax w).mono ?_; rintro e w' ⟨rfl, rfl⟩) | (go_at_call 42; with_reducible refine (hmin w).mono ?_; rintro e w' ⟨rfl, rfl⟩) | (first | (go_at_call 39; with_reducible refine (q2 w).mono ?_; rintro e w' ⟨rfl, rfl⟩) | (go_at_call 41; with_reducible refine (q7 w).mono ?_; rintro e w' ⟨rfl, rfl⟩) | (go_at_call 41; with_reducible refine (q19 w).mono ?_; rintro e w' ⟨rfl, rfl⟩) | (go_at_call 41; with_reducible refine (q23 w).mono ?_; rintro e w' ⟨rfl, rfl⟩)))
  go_ret2
  exact ⟨w.heap.size, rfl, Nat.le_refl _, heap_alloc_new w _, (Below.refl _ w).alloc (Nat.le_refl _) _⟩

/-- ddsketch/pub/skmapping.NewLinearlyInterpolatedMappingWithGamma, plainly. -/
def newLinF (g : Nat) (off : Nat) : Option (Nat × Nat × Nat) :=
  (need (!(fle g 4607182418800017408))).bind fun _ =>
  (log2F g).bind fun l =>
  (fdiv 4607182418800017408 l).bind fun mult =>
  (powF g 4609176140021203710).bind fun adj =>
  (fsub 13970166044103278592 off).bind fun a1 =>
  (fdiv a1 mult).bind fun a2 =>
  (fadd a2 4607182418800017408).bind fun a3 =>
  (exp2F a3).bind fun ex1 =>
  (need (ex1 == 0)).bind fun _ =>
  (fmul 4503599627370496 adj).bind fun mn =>
  (need (!(fgt mn 9218868437227405311))).bind fun _ =>
  (need (isNum mn)).bind fun _ =>
  (need (!(feq 0 mn))).bind fun _ =>
  (need (!(fgt 0 mn))).bind fun _ =>
  (fsub 4746794007244308480 off).bind fun c1 =>
  (fdiv c1 mult).bind fun c2 =>
  (fsub c2 4607182418800017408).bind fun c3 =>
  (exp2F c3).bind fun ex2 =>
  (need (ex2 == 9218868437227405312)).bind fun _ =>
  (expF 4649451482093607557).bind fun ex3 =>
  (fmul 4611686018427387904 adj).bind fun d1 =>
  (fdiv ex3 d1).bind fun d2 =>
  (fadd adj 4607182418800017408).bind fun d3 =>
  (fmul d2 d3).bind fun mx =>
  (need (!(fgt (negF mx) 9218868437227405311))).bind fun _ =>
  (need (isNum mx)).bind fun _ =>
  (need (!(flt 9218868437227405312 mx))).bind fun _ =>
  some (mult, mn, mx)

set_option maxRecDepth 100000 in
set_option maxHeartbeats 1000000 in
theorem newLin_any (g : Nat) (off : Nat) (out0 : Nat) (out1 : Nat) (out2 : Nat) (w : World) (h : newLinF g off = some (out0, out1, out2)) : Calls Try.prog 28 #[.float .f64 g, .float .f64 off] w fun e w' => Made 89 g off out0 out1 out2 w e w' := by
  unfold newLinF at h
  simp only [Option.bind_eq_some_iff] at h
  obtain ⟨_u1, e1, l, e2, mult, e3, adj, e4, a1, e5, a2, e6, a3, e7, ex1, e8, _u9, e9, mn, e12, _u13, e13, _u14, e14, _u15, e15, _u16, e16, c1, e17, c2, e18, c3, e19, ex2, e20, _u21, e21, ex3, e24, d1, e25, d2, e26, d3, e27, mx, e28, _u29, e29, _u30, e30, _u31, e31, hout⟩ := h
  simp only [Option.some.injEq, Prod.mk.injEq] at hout
  obtain ⟨ho0, ho1, ho2⟩ := hout
  have q1 : (FloatKind.f64.format.order g 4607182418800017408 == some .lt || FloatKind.f64.format.order g 4607182418800017408 == some .eq) = false := need_not e1
  have q2 := fun w => log2_any g l w e2
  have q3 := fun w : World => run_float_arith (P := Try.prog) w .quo 22 .f64 4607182418800017408 l mult e3
  have q4 := fun w => pow_any g 4609176140021203710 adj w e4
  have q5 := fun w : World => run_float_arith (P := Try.prog) w .sub 22 .f64 13970166044103278592 off a1 e5
  have q6 := fun w : World => run_float_arith (P := Try.prog) w .quo 22 .f64 a1 mult a2 e6
  have q7 := fun w : World => run_float_arith (P := Try.prog) w .add 22 .f64 a2 4607182418800017408 a3 e7
  have q8 := fun w => exp2_any a3 ex1 w e8
  have q9 := need_is e9
  have hx1 : ex1 = 0 := by simpa using q9
  subst hx1
  have q12 := fun w : World => run_float_arith (P := Try.prog) w .mul 22 .f64 4503599627370496 adj mn e12
  have q13 : (FloatKind.f64.format.order mn 9218868437227405311 == some .gt) = false := need_not e13
  have q14 := need_is e14
  have q15 : (FloatKind.f64.format.order 0 mn == some .eq) = false := need_not e15
  have q16 : (FloatKind.f64.format.order 0 mn == some .gt) = false := need_not e16
  have q17 := fun w : World => run_float_arith (P := Try.prog) w .sub 22 .f64 4746794007244308480 off c1 e17
  have q18 := fun w : World => run_float_arith (P := Try.prog) w .quo 22 .f64 c1 mult c2 e18
  have q19 := fun w : World => run_float_arith (P := Try.prog) w .sub 22 .f64 c2 4607182418800017408 c3 e19
  have q20 := fun w => exp2_any c3 ex2 w e20
  have q21 := need_is e21
  have hx2 : ex2 = 9218868437227405312 := by simpa using q21
  subst hx2
  have q24 := fun w => exp_any 4649451482093607557 ex3 w e24
  have q25 := fun w : World => run_float_arith (P := Try.prog) w .mul 22 .f64 4611686018427387904 adj d1 e25
  have q26 := fun w : World => run_float_arith (P := Try.prog) w .quo 22 .f64 ex3 d1 d2 e26
  have q27 := fun w : World => run_float_arith (P := Try.prog) w .add 22 .f64 adj 4607182418800017408 d3 e27
  have q28 := fun w : World => run_float_arith (P := Try.prog) w .mul 22 .f64 d2 d3 mx e28
  have q29 := need_not e29
  have q30 := need_is e30
  have q31 : (FloatKind.f64.format.order 9218868437227405312 mx == some .lt) = false := need_not e31
  clear e1 e2 e3 e4 e5 e6 e7 e8 e9 e12 e13 e14 e15 e16 e17 e18 e19 e20 e21 e24 e25 e26 e27 e28 e29 e30 e31
  subst ho0 ho1 ho2
  have hmax := fun w => max_any mn w q13 q14 q15 q16
  have hmin := fun w => min_any mx w q29 q30 q31
  go_enter Try.func28, Try.ntmps28
  go_wp2_with (first | (go_at_call 40; with_reducible refine (hmax w).mono ?_; rintro e w' ⟨rfl, rfl⟩) | (go_at_call 42; with_reducible refine (hmin w).mono ?_; rintro e w' ⟨rfl, rfl⟩) | (first | (go_at_call 34; with_reducible refine (q2 w).mono ?_; rintro e w' ⟨rfl, rfl⟩) | (go_at_call 33; with_reducible refine (q4 w).mono ?_; rintro e w' ⟨rfl, rfl⟩) | (go_at_call 43; with_reducible refine (q8 w).mono ?_; rintro e w' ⟨rfl, rfl⟩) | (go_at_call 43; with_reducible refine (q20 w).mono ?_; rintro e w' ⟨rfl, rfl⟩) | (go_at_call 41; with_reducible refine (q24 w).mono ?_; rintro e w' ⟨rfl, rfl⟩)))
  go_ret2
  exact ⟨w.heap.size, rfl, Nat.le_refl _, heap_alloc_new w _, (Below.refl _ w).alloc (Nat.le_refl _) _⟩

/-- ddsketch/pub/skmapping.NewCubicallyInterpolatedMappingWithGamma, plainly. -/
def newCubF (g : Nat) (off : Nat) : Option (Nat × Nat × Nat) :=
  (need (!(fle g 4607182418800017408))).bind fun _ =>
  (log2F g).bind fun l =>
  (fdiv 4607182418800017408 l).bind fun mult =>
  (powF g 4607226943766636671).bind fun adj =>
  (fsub 13970166044103278592 off).bind fun a1 =>
  (fdiv a1 mult).bind fun a2 =>
  (fadd a2 4607182418800017408).bind fun a3 =>
  (exp2F a3).bind fun ex1 =>
  (need (ex1 == 0)).bind fun _ =>
  (fmul 4503599627370496 adj).bind fun mn =>
  (need (!(fgt mn 9218868437227405311))).bind fun _ =>
  (need (isNum mn)).bind fun _ =>
  (need (!(feq 0 mn))).bind fun _ =>
  (need (!(fgt 0 mn))).bind fun _ =>
  (fsub 4746794007244308480 off).bind fun c1 =>
  (fdiv c1 mult).bind fun c2 =>
  (fsub c2 4607182418800017408).bind fun c3 =>
  (exp2F c3).bind fun ex2 =>
  (need (ex2 == 9218868437227405312)).bind fun _ =>
  (expF 4649451482093607557).bind fun ex3 =>
  (fmul 4611686018427387904 adj).bind fun d1 =>
  (fdiv ex3 d1).bind fun d2 =>
  (fadd adj 4607182418800017408).bind fun d3 =>
  (fmul d2 d3).bind fun mx =>
  (need (!(fgt (negF mx) 9218868437227405311))).bind fun _ =>
  (need (isNum mx)).bind fun _ =>
  (need (!(flt 9218868437227405312 mx))).bind fun _ =>
  some (mult, mn, mx)

set_option maxRecDepth 100000 in
set_option maxHeartbeats 1000000 in
theorem newCub_any (g : Nat) (off : Nat) (out0 : Nat) (out1 : Nat) (out2 : Nat) (w : World) (h : newCubF g off = some (out0, out1, out2)) : Calls Try.prog 30 #[.float .f64 g, .float .f64 off] w fun e w' => Made 90 g off out0 out1 out2 w e w' := by
  unfold newCubF at h
  simp only [Option.bind_eq_some_iff] at h
  obtain ⟨_u1, e1, l, e2, mult, e3, adj, e4, a1, e5, a2, e6, a3, e7, ex1, e8, _u9, e9, mn, e12, _u13, e13, _u14, e14, _u15, e15, _u16, e16, c1, e17, c2, e18, c3, e19, ex2, e20, _u21, e21, ex3, e24, d1, e25, d2, e26, d3, e27, mx, e28, _u29, e29, _u30, e30, _u31, e31, hout⟩ := h
  simp only [Option.some.injEq, Prod.mk.injEq] at hout
  obtain ⟨ho0, ho1, ho2⟩ := hout
  have q1 : (FloatKind.f64.format.order g 4607182418800017408 == some .lt || FloatKind.f64.format.order g 4607182418800017408 == some .eq) = false := need_not e1
  have q2 := fun w => log2_any g l w e2
  have q3 := fun w : World => run_float_arith (P := Try.prog) w .quo 22 .f64 4607182418800017408 l mult e3
  have q4 := fun w => pow_any g 4607226943766636671 adj w e4
  have q5 := fun w : World => run_float_arith (P := Try.prog) w .sub 22 .f64 13970166044103278592 off a1 e5
  have q6 := fun w : World => run_float_arith (P := Try.prog) w .quo 22 .f64 a1 mult a2 e6
  have q7 := fun w : World => run_float_arith (P := Try.prog) w .add 22 .f64 a2 4607182418800017408 a3 e7
  have q8 := fun w => exp2_any a3 ex1 w e8
  have q9 := need_is e9
  have hx1 : ex1 = 0 := by simpa using q9
  subst hx1
  have q12 := fun w : World => run_float_arith (P := Try.prog) w .mul 22 .f64 4503599627370496 adj mn e12
  have q13 : (FloatKind.f64.format.order mn 9218868437227405311 == some .gt) = false := need_not e13
  have q14 := need_is e14
  have q15 : (FloatKind.f64.format.order 0 mn == some .eq) = false := need_not e15
  have q16 : (FloatKind.f64.format.order 0 mn == some .gt) = false := need_not e16
  have q17 := fun w : World => run_float_arith (P := Try.prog) w .sub 22 .f64 4746794007244308480 off c1 e17
  have q18 := fun w : World => run_float_arith (P := Try.prog) w .quo 22 .f64 c1 mult c2 e18
  have q19 := fun w : World => run_float_arith (P := Try.prog) w .sub 22 .f64 c2 4607182418800017408 c3 e19
  have q20 := fun w => exp2_any c3 ex2 w e20
  have q21 := need_is e21
  have hx2 : ex2 = 9218868437227405312 := by simpa using q21
  subst hx2
  have q24 := fun w => exp_any 4649451482093607557 ex3 w e24
  have q25 := fun w : World => run_float_arith (P := Try.prog) w .mul 22 .f64 4611686018427387904 adj d1 e25
  have q26 := fun w : World => run_float_arith (P := Try.prog) w .quo 22 .f64 ex3 d1 d2 e26
  have q27 := fun w : World => run_float_arith (P := Try.prog) w .add 22 .f64 adj 4607182418800017408 d3 e27
  have q28 := fun w : World => run_float_arith (P := Try.prog) w .mul 22 .f64 d2 d3 mx e28
  have q29 := need_not e29
  have q30 := need_is e30
  have q31 : (FloatKind.f64.format.order 9218868437227405312 mx == some .lt) = false := need_not e31
  clear e1 e2 e3 e4 e5 e6 e7 e8 e9 e12 e13 e14 e15 e16 e17 e18 e19 e20 e21 e24 e25 e26 e27 e28 e29 e30 e31
  subst ho0 ho1 ho2
  have hmax := fun w => max_any mn w q13 q14 q15 q16
  have hmin := fun w => min_any mx w q29 q30 q31
  go_enter Try.func30, Try.ntmps30
  go_wp2_with (first | (go_at_call 40; with_reducible refine (hmax w).mono ?_; rintro e w' ⟨rfl, rfl⟩) | (go_at_call 42; with_reducible refine (hmin w).mono ?_; rintro e w' ⟨rfl, rfl⟩) | (first | (go_at_call 34; with_reducible refine (q2 w).mono ?_; rintro e w' ⟨rfl, rfl⟩) | (go_at_call 33; with_reducible refine (q4 w).mono ?_; rintro e w' ⟨rfl, rfl⟩) | (go_at_call 43; with_reducible refine (q8 w).mono ?_; rintro e w' ⟨rfl, rfl⟩) | (go_at_call 43; with_reducible refine (q20 w).mono ?_; rintro e w' ⟨rfl, rfl⟩) | (go_at_call 41; with_reducible refine (q24 w).mono ?_; rintro e w' ⟨rfl, rfl⟩)))
  go_ret2
  exact ⟨w.heap.size, rfl, Nat.le_refl _, heap_alloc_new w _, (Below.refl _ w).alloc (Nat.le_refl _) _⟩

/-- ddsketch/pub/skmapping.NewLogarithmicMapping, plainly. -/
def ofLogF (a : Nat) : Option (Nat × Nat × Nat × Nat × Nat) :=
  (need (!(fle a 0))).bind fun _ =>
  (need (!(fge a 4607182418800017408))).bind fun _ =>
  (fadd 4607182418800017408 a).bind fun n =>
  (fsub 4607182418800017408 a).bind fun d =>
  (fdiv n d).bind fun g =>
  (some (0)).bind fun off =>
  (newLogF g 0).bind fun ⟨mult, mn, mx⟩ =>
  some (g, off, mult, mn, mx)

set_option maxRecDepth 100000 in
set_option maxHeartbeats 400000 in
theorem ofLog_any (a : Nat) (out0 : Nat) (out1 : Nat) (out2 : Nat) (out3 : Nat) (out4 : Nat) (w : World) (h : ofLogF a = some (out0, out1, out2, out3, out4)) : Calls Try.prog 21 #[.float .f64 a] w fun e w' => Made 88 out0 out1 out2 out3 out4 w e w' := by
  unfold ofLogF at h
  simp only [Option.bind_eq_some_iff, Prod.exists] at h
  obtain ⟨_u1, e1, _u2, e2, n, e3, d, e4, g, e5, off, e6, mult, mn, mx, e8, hout⟩ := h
  simp only [Option.some.injEq, Prod.mk.injEq] at hout
  obtain ⟨ho0, ho1, ho2, ho3, ho4⟩ := hout
  have q1 : (FloatKind.f64.format.order a 0 == some .lt || FloatKind.f64.format.order a 0 == some .eq) = false := need_not e1
  have q2 : (FloatKind.f64.format.order a 4607182418800017408 == some .gt || FloatKind.f64.format.order a 4607182418800017408 == some .eq) = false := need_not e2
  have q3 := fun w : World => run_float_arith (P := Try.prog) w .add 22 .f64 4607182418800017408 a n e3
  have q4 := fun w : World => run_float_arith (P := Try.prog) w .sub 22 .f64 4607182418800017408 a d e4
  have q5 := fun w : World => run_float_arith (P := Try.prog) w .quo 22 .f64 n d g e5
  have q6 := Option.some.inj e6
  subst q6
  have q8 := fun w => newLog_any g 0 mult mn mx w e8
  clear e1 e2 e3 e4 e5 e6 e8
  subst ho0 ho1 ho2 ho3 ho4
  go_enter Try.func21, Try.ntmps21
  go_wp2_with (first | (go_at_call 26; (with_reducible refine (q8 w).mono ?_); rintro e w' ⟨p, rfl, hp, hh, hb⟩) | fail)
  go_ret2
  exact ⟨p, rfl, hp, hh, hb⟩

/-- ddsketch/pub/skmapping.NewLinearlyInterpolatedMapping, plainly. -/
def ofLinF (a : Nat) : Option (Nat × Nat × Nat × Nat × Nat) :=
  (need (!(fle a 0))).bind fun _ =>
  (need (!(fge a 4607182418800017408))).bind fun _ =>
  (fadd 4607182418800017408 a).bind fun n =>
  (fsub 4607182418800017408 a).bind fun d =>
  (fdiv n d).bind fun b =>
  (powF b 4604418534313441775).bind fun g =>
  (log2F g).bind fun l =>
  (fdiv 4607182418800017408 l).bind fun off =>
  (newLinF g off).bind fun ⟨mult, mn, mx⟩ =>
  some (g, off, mult, mn, mx)

set_option maxRecDepth 100000 in
set_option maxHeartbeats 400000 in
theorem ofLin_any (a : Nat) (out0 : Nat) (out1 : Nat) (out2 : Nat) (out3 : Nat) (out4 : Nat) (w : World) (h : ofLinF a = some (out0, out1, out2, out3, out4)) : Calls Try.prog 22 #[.float .f64 a] w fun e w' => Made 89 out0 out1 out2 out3 out4 w e w' := by
  unfold ofLinF at h
  simp only [Option.bind_eq_some_iff, Prod.exists] at h
  obtain ⟨_u1, e1, _u2, e2, n, e3, d, e4, b, e5, g, e6, l, e7, off, e8, mult, mn, mx, e9, hout⟩ := h
  simp only [Option.some.injEq, Prod.mk.injEq] at hout
  obtain ⟨ho0, ho1, ho2, ho3, ho4⟩ := hout
  have q1 : (FloatKind.f64.format.order a 0 == some .lt || FloatKind.f64.format.order a 0 == some .eq) = false := need_not e1
  have q2 : (FloatKind.f64.format.order a 4607182418800017408 == some .gt || FloatKind.f64.format.order a 4607182418800017408 == some .eq) = false := need_not e2
  have q3 := fun w : World => run_float_arith (P := Try.prog) w .add 22 .f64 4607182418800017408 a n e3
  have q4 := fun w : World => run_float_arith (P := Try.prog) w .sub 22 .f64 4607182418800017408 a d e4
  have q5 := fun w : World => run_float_arith (P := Try.prog) w .quo 22 .f64 n d b e5
  have q6 := fun w => pow_any b 4604418534313441775 g w e6
  have q7 := fun w => log2_any g l w e7
  have q8 := fun w : World => run_float_arith (P := Try.prog) w .quo 22 .f64 4607182418800017408 l off e8
  have q9 := fun w => newLin_any g off mult mn mx w e9
  clear e1 e2 e3 e4 e5 e6 e7 e8 e9
  subst ho0 ho1 ho2 ho3 ho4
  go_enter Try.func22, Try.ntmps22
  go_wp2_with (first | (go_at_call 28; (with_reducible refine (q9 w).mono ?_); rintro e w' ⟨p, rfl, hp, hh, hb⟩) | (first | (go_at_call 33; with_reducible refine (q6 w).mono ?_; rintro e w' ⟨rfl, rfl⟩) | (go_at_call 34; with_reducible refine (q7 w).mono ?_; rintro e w' ⟨rfl, rfl⟩)))
  go_ret2
  exact ⟨p, rfl, hp, hh, hb⟩

/-- ddsketch/pub/skmapping.NewCubicallyInterpolatedMapping, plainly. -/
def ofCubF (a : Nat) : Option (Nat × Nat × Nat × Nat × Nat) :=
  (need (!(fle a 0))).bind fun _ =>
  (need (!(fge a 4607182418800017408))).bind fun _ =>
  (fadd 4607182418800017408 a).bind fun n =>
  (fsub 4607182418800017408 a).bind fun d =>
  (fdiv n d).bind fun b =>
  (powF b 4607094240642655501).bind fun g =>
  (some (0)).bind fun off =>
  (newCubF g 0).bind fun ⟨mult, mn, mx⟩ =>
  some (g, off, mult, mn, mx)

set_option maxRecDepth 100000 in
set_option maxHeartbeats 400000 in
theorem ofCub_any (a : Nat) (out0 : Nat) (out1 : Nat) (out2 : Nat) (out3 : Nat) (out4 : Nat) (w : World) (h : ofCubF a = some (out0, out1, out2, out3, out4)) : Calls Try.prog 23 #[.float .f64 a] w fun e w' => Made 90 out0 out1 out2 out3 out4 w e w' := by
  unfold ofCubF at h
  simp only [Option.bind_eq_some_iff, Prod.exists] at h
  obtain ⟨_u1, e1, _u2, e2, n, e3, d, e4, b, e5, g, e6, off, e7, mult, mn, mx, e9, hout⟩ := h
  simp only [Option.some.injEq, Prod.mk.injEq] at hout
  obtain ⟨ho0, ho1, ho2, ho3, ho4⟩ := hout
  have q1 : (FloatKind.f64.format.order a 0 == some .lt || FloatKind.f64.format.order a 0 == some .eq) = false := need_not e1
  have q2 : (FloatKind.f64.format.order a 4607182418800017408 == some .gt || FloatKind.f64.format.order a 4607182418800017408 == some .eq) = false := need_not e2
  have q3 := fun w : World => run_float_arith (P := Try.prog) w .add 22 .f64 4607182418800017408 a n e3
  have q4 := fun w : World => run_float_arith (P := Try.prog) w .sub 22 .f64 4607182418800017408 a d e4
  have q5 := fun w : World => run_float_arith (P := Try.prog) w .quo 22 .f64 n d b e5
  have q6 := fun w => pow_any b 4607094240642655501 g w e6
  have q7 := Option.some.inj e7
  subst q7
  have q9 := fun w => newCub_any g 0 mult mn mx w e9
  clear e1 e2 e3 e4 e5 e6 e7 e9
  subst ho0 ho1 ho2 ho3 ho4
  go_enter Try.func23, Try.ntmps23
  go_wp2_with (first | (go_at_call 30; (with_reducible refine (q9 w).mono ?_); rintro e w' ⟨p, rfl, hp, hh, hb⟩) | (first | (go_at_call 33; with_reducible refine (q6 w).mono ?_; rintro e w' ⟨rfl, rfl⟩)))
  go_ret2
  exact ⟨p, rfl, hp, hh, hb⟩
end Go.Proofs.Ytgommnmmifgbgaa
