/-
  The mappings, made. (Printed by gen_new.py.)
-/
import Derived.Test.YtgommnmmifgbgaaGAC
import Derived.Test.YtgommnmmifgbgaaProg
import Derived.Test.YtgommnmmifgbgaaGAA
import Derived.Defers
import Derived.Recover
import Derived.Test.YtgommnmmifgbgaaGAD
section
namespace Go.Proofs.Ytgommnmmifgbgaa
open Go.RowKit

/-- A mapping, made: a new block with its five numbers. -/
def Made (t : TypeId) (g off mult mn mx : Nat) (w : World) (e : Ending) (w' : World) : Prop :=
  ∃ p, e = .returned (.tuple #[.pointer (some ⟨p, 0, none⟩), .nilIface]) ∧ w.heap.size ≤ p ∧ w'.heap[p]? = some (.cells #[.float .f64 g, .float .f64 off, .float .f64 mult, .float .f64 mn, .float .f64 mx] t (0, 0)) ∧ Below w.heap.size w w'

/-- ddsketch/pub/skmapping.NewLogarithmicMappingWithGamma, plainly. -/
def newLogF (g : Nat) (off : Nat) : Option (Nat × Nat × Nat) :=
  (need (!(fle g 4607182418800017408))).bind fun _ =>
  (logF g).bind fun l =>
  (fdiv 4607182418800017408 l).bind fun mult =>
  (fsub 13970166044103278592 off).bind fun a1 =>
  (fdiv a1 mult).bind fun a2 =>
  (fadd a2 4607182418800017408).bind fun a3 =>
  (expF a3).bind fun ex1 =>
  (need (ex1 == 0)).bind fun _ =>
  (fmul 4503599627370496 g).bind fun mn =>
  (need (!(fgt mn 9218868437227405311))).bind fun _ =>
  (need (isNum mn)).bind fun _ =>
  (need (!(feq 0 mn))).bind fun _ =>
  (need (!(fgt 0 mn))).bind fun _ =>
  (fsub 4746794007244308480 off).bind fun c1 =>
  (fdiv c1 mult).bind fun c2 =>
  (fsub c2 4607182418800017408).bind fun c3 =>
  (expF c3).bind fun ex2 =>
  (need (ex2 == 9218868437227405312)).bind fun _ =>
  (expF 4649451482093607557).bind fun ex3 =>
  (fmul 4611686018427387904 g).bind fun d1 =>
  (fdiv ex3 d1).bind fun d2 =>
  (fadd g 4607182418800017408).bind fun d3 =>
  (fmul d2 d3).bind fun mx =>
  (need (!(fgt (negF mx) 9218868437227405311))).bind fun _ =>
  (need (isNum mx)).bind fun _ =>
  (need (!(flt 9218868437227405312 mx))).bind fun _ =>
  some (mult, mn, mx)

set_option maxRecDepth 100000 in
set_option maxHeartbeats 1000000 in
theorem newLog_any (g : Nat) (off : Nat) (out0 : Nat) (out1 : Nat) (out2 : Nat) (w : World) (h : newLogF g off = some (out0, out1, out2)) : Calls Try.prog 26 #[.float .f64 g, .float .f64 off] w fun e w' => Made 88 g off out0 out1 out2 w e w' := by
  unfold newLogF at h
  simp only [Option.bind_eq_some_iff] at h
  obtain ⟨_u1, e1, l, e2, mult, e3, a1, e4, a2, e5, a3, e6, ex1, e7, _u8, e8, mn, e11, _u12, e12, _u13, e13, _u14, e14, _u15, e15, c1, e16, c2, e17, c3, e18, ex2, e19, _u20, e20, ex3, e23, d1, e24, d2, e25, d3, e26, mx, e27, _u28, e28, _u29, e29, _u30, e30, hout⟩ := h
  simp only [Option.some.injEq, Prod.mk.injEq] at hout
  obtain ⟨ho0, ho1, ho2⟩ := hout
  have q1 : (FloatKind.f64.format.order g 4607182418800017408 == some .lt || FloatKind.f64.format.order g 4607182418800017408 == some .eq) = false := need_not e1
  have q2 := fun w => log_any g l w e2
  have q3 := fun w : World => run_float_arith (P := Try.prog) w .quo 22 .f64 4607182418800017408 l mult e3
  have q4 := fun w : World => run_float_arith (P := Try.prog) w .sub 22 .f64 13970166044103278592 off a1 e4
  have q5 := fun w : World => run_float_arith (P := Try.prog) w .quo 22 .f64 a1 mult a2 e5
  have q6 := fun w : World => run_float_arith (P := Try.prog) w .add 22 .f64 a2 4607182418800017408 a3 e6
  have q7 := fun w => exp_any a3 ex1 w e7
  have q8 := need_is e8
  have hx1 : ex1 = 0 := by simpa using q8
  subst hx1
  have q11 := fun w : World => run_float_arith (P := Try.prog) w .mul 22 .f64 4503599627370496 g mn e11
  have q12 : (FloatKind.f64.format.order mn 9218868437227405311 == some .gt) = false := need_not e12
  have q13 := need_is e13
  have q14 : (FloatKind.f64.format.order 0 mn == some .eq) = false := need_not e14
  have q15 : (FloatKind.f64.format.order 0 mn == some .gt) = false := need_not e15
  have q16 := fun w : World => run_float_arith (P := Try.prog) w .sub 22 .f64 4746794007244308480 off c1 e16
  have q17 := fun w : World => run_float_arith (P := Try.prog) w .quo 22 .f64 c1 mult c2 e17
  have q18 := fun w : World => run_float_arith (P := Try.prog) w .sub 22 .f64 c2 4607182418800017408 c3 e18
  have q19 := fun w => exp_any c3 ex2 w e19
  have q20 := need_is e20
  have hx2 : ex2 = 9218868437227405312 := by simpa using q20
  subst hx2
  have q23 := fun w => exp_any 4649451482093607557 ex3 w e23
  have q24 := fun w : World => run_float_arith (P := Try.prog) w .mul 22 .f64 4611686018427387904 g d1 e24
  have q25 := fun w : World => run_float_arith (P := Try.prog) w .quo 22 .f64 ex3 d1 d2 e25
  have q26 := fun w : World => run_float_arith (P := Try.prog) w .add 22 .f64 g 4607182418800017408 d3 e26
  have q27 := fun w : World => run_float_arith (P := Try.prog) w .mul 22 .f64 d2 d3 mx e27
  have q28 := need_not e28
  have q29 := need_is e29
  have q30 : (FloatKind.f64.format.order 9218868437227405312 mx == some .lt) = false := need_not e30
  clear e1 e2 e3 e4 e5 e6 e7 e8 e11 e12 e13 e14 e15 e16 e17 e18 e19 e20 e23 e24 e25 e26 e27 e28 e29 e30
  subst ho0 ho1 ho2
  have hmax := fun w => max_any mn w q12 q13 q14 q15
  have hmin := fun w => min_any mx w q28 q29 q30
  go_enter Try.func26, Try.ntmps26
  go_wp2_with (first | (go_at_call 40; with_reducible refine (hmax w).mono ?_; rintro e w' ⟨rfl, rfl⟩) | (go_at_call 42; with_reducible refine (hmin w).mono ?_; rintro e w' ⟨rfl, rfl⟩) | (first | (go_at_call 39; with_reducible refine (q2 w).mono ?_; rintro e w' ⟨rfl, rfl⟩) | (go_at_call 41; with_reducible refine (q7 w).mono ?_; rintro e w' ⟨rfl, rfl⟩) | (go_at_call 41; with_reducible refine (q19 w).mono ?_; rintro e w' ⟨rfl, rfl⟩) | (go_at_call 41; with_reducible refine (q23 w).mono ?_; rintro e w' ⟨rfl, rfl⟩)))
  go_ret2
  exact ⟨w.heap.size, rfl, Nat.le_refl _, heap_alloc_new w _, (Below.refl _ w).alloc (Nat.le_refl _) _⟩

/-- ddsketch/pub/skmapping.NewLinearlyInterpolatedMappingWithGamma, plainly. -/
def newLinF (g : Nat) (off : Nat) : Option (Nat × Nat × Nat) :=
  (need (!(fle g 4607182418800017408))).bind fun _ =>
  (log2F g).bind fun l =>
  (fdiv 4607182418800017408 l).bind fun mult =>
  (powF g 4609176140021203710).bind fun adj =>
  (fsub 13970166044103278592 off).bind fun a1 =>
  (fdiv a1 mult).bind fun a2 =>
  (fadd a2 4607182418800017408).bind fun a3 =>
  (exp2F a3).bind fun ex1 =>
  (need (ex1 == 0)).bind fun _ =>
  (fmul 4503599627370496 adj).bind fun mn =>
  (need (!(fgt mn 9218868437227405311))).bind fun _ =>
  (need (isNum mn)).bind fun _ =>
  (need (!(feq 0 mn))).bind fun _ =>
  (need (!(fgt 0 mn))).bind fun _ =>
  (fsub 4746794007244308480 off).bind fun c1 =>
  (fdiv c1 mult).bind fun c2 =>
  (fsub c2 4607182418800017408).bind fun c3 =>
  (exp2F c3).bind fun ex2 =>
  (need (ex2 == 9218868437227405312)).bind fun _ =>
  (expF 4649451482093607557).bind fun ex3 =>
  (fmul 4611686018427387904 adj).bind fun d1 =>
  (fdiv ex3 d1).bind fun d2 =>
  (fadd adj 4607182418800017408).bind fun d3 =>
  (fmul d2 d3).bind fun mx =>
  (need (!(fgt (negF mx) 9218868437227405311))).bind fun _ =>
  (need (isNum mx)).bind fun _ =>
  (need (!(flt 9218868437227405312 mx))).bind fun _ =>
  some (mult, mn, mx)

set_option maxRecDepth 100000 in
set_option maxHeartbeats 1000000 in
theorem newLin_any (g : Nat) (off : Nat) (out0 : Nat) (out1 : Nat) (out2 : Nat) (w : World) (h : newLinF g off = some (out0, out1, out2)) : Calls Try.prog 28 #[.float .f64 g, .float .f64 off] w fun e w' => Made 89 g off out0 out1 out2 w e w' := by
  unfold newLinF at h
  simp only [Option.bind_eq_some_iff] at h
  obtain ⟨_u1, e1, l, e2, mult, e3, adj, e4, a1, e5, a2, e6, a3, e7, ex1, e8, _u9, e9, mn, e12, _u13, e13, _u14, e14, _u15, e15, _u16, e16, c1, e17, c2, e18, c3, e19, ex2, e20, _u21, e21, ex3, e24, d1, e25, d2, e26, d3, e27, mx, e28, _u29, e29, _u30, e30, _u31, e31, hout⟩ := h
  simp only [Option.some.injEq, Prod.mk.injEq] at hout
  obtain ⟨ho0, ho1, ho2⟩ := hout
  have q1 : (FloatKind.f64.format.order g 4607182418800017408 == some .lt || FloatKind.f64.format.order g 4607182418800017408 == some .eq) = false := need_not e1
  have q2 := fun w => log2_any g l w e2
  have q3 := fun w : World => run_float_arith (P := Try.prog) w .quo 22 .f64 4607182418800017408 l mult e3
  have q4 := fun w => pow_any g 4609176140021203710 adj w e4
  have q5 := fun w : World => run_float_arith (P := Try.prog) w .sub 22 .f64 13970166044103278592 off a1 e5
  have q6 := fun w : World => run_float_arith (P := Try.prog) w .quo 22 .f64 a1 mult a2 e6
  have q7 := fun w : World => run_float_arith (P := Try.prog) w .add 22 .f64 a2 4607182418800017408 a3 e7
  have q8 := fun w => exp2_any a3 ex1 w e8
  have q9 := need_is e9
  have hx1 : ex1 = 0 := by simpa using q9
  subst hx1
  have q12 := fun w : World => run_float_arith (P := Try.prog) w .mul 22 .f64 4503599627370496 adj mn e12
  have q13 : (FloatKind.f64.format.order mn 9218868437227405311 == some .gt) = false := need_not e13
  have q14 := need_is e14
  have q15 : (FloatKind.f64.format.order 0 mn == some .eq) = false := need_not e15
  have q16 : (FloatKind.f64.format.order 0 mn == some .gt) = false := need_not e16
  have q17 := fun w : World => run_float_arith (P := Try.prog) w .sub 22 .f64 4746794007244308480 off c1 e17
  have q18 := fun w : World => run_float_arith (P := Try.prog) w .quo 22 .f64 c1 mult c2 e18
  have q19 := fun w : World => run_float_arith (P := Try.prog) w .sub 22 .f64 c2 4607182418800017408 c3 e19
  have q20 := fun w => exp2_any c3 ex2 w e20
  have q21 := need_is e21
  have hx2 : ex2 = 9218868437227405312 := by simpa using q21
  subst hx2
  have q24 := fun w => exp_any 4649451482093607557 ex3 w e24
  have q25 := fun w : World => run_float_arith (P := Try.prog) w .mul 22 .f64 4611686018427387904 adj d1 e25
  have q26 := fun w : World => run_float_arith (P := Try.prog) w .quo 22 .f64 ex3 d1 d2 e26
  have q27 := fun w : World => run_float_arith (P := Try.prog) w .add 22 .f64 adj 4607182418800017408 d3 e27
  have q28 := fun w : World => run_float_arith (P := Try.prog) w .mul 22 .f64 d2 d3 mx e28
  have q29 := need_not e29
  have q30 := need_is e30
  have q31 : (FloatKind.f64.format.order 9218868437227405312 mx == some .lt) = false := need_not e31
  clear e1 e2 e3 e4 e5 e6 e7 e8 e9 e12 e13 e14 e15 e16 e17 e18 e19 e20 e21 e24 e25 e26 e27 e28 e29 e30 e31
  subst ho0 ho1 ho2
  have hmax := fun w => max_any mn w q13 q14 q15 q16
  have hmin := fun w => min_any mx w q29 q30 q31
  go_enter Try.func28, Try.ntmps28
  go_wp2_with (first | (go_at_call 40; with_reducible refine (hmax w).mono ?_; rintro e w' ⟨rfl, rfl⟩) | (go_at_call 42; with_reducible refine (hmin w).mono ?_; rintro e w' ⟨rfl, rfl⟩) | (first | (go_at_call 34; with_reducible refine (q2 w).mono ?_; rintro e w' ⟨rfl, rfl⟩) | (go_at_call 33; with_reducible refine (q4 w).mono ?_; rintro e w' ⟨rfl, rfl⟩) | (go_at_call 43; with_reducible refine (q8 w).mono ?_; rintro e w' ⟨rfl, rfl⟩) | (go_at_call 43; with_reducible refine (q20 w).mono ?_; rintro e w' ⟨rfl, rfl⟩) | (go_at_call 41; with_reducible refine (q24 w).mono ?_; rintro e w' ⟨rfl, rfl⟩)))
  go_ret2
  exact ⟨w.heap.size, rfl, Nat.le_refl _, heap_alloc_new w _, (Below.refl _ w).alloc (Nat.le_refl _) _⟩

/-- ddsketch/pub/skmapping.NewCubicallyInterpolatedMappingWithGamma, plainly. -/
def newCubF (g : Nat) (off : Nat) : Option (Nat × Nat × Nat) :=
  (need (!(fle g 4607182418800017408))).bind fun _ =>
  (log2F g).bind fun l =>
  (fdiv 4607182418800017408 l).bind fun mult =>
  (powF g 4607226943766636671).bind fun adj =>
  (fsub 13970166044103278592 off).bind fun a1 =>
  (fdiv a1 mult).bind fun a2 =>
  (fadd a2 4607182418800017408).bind fun a3 =>
  (exp2F a3).bind fun ex1 =>
  (need (ex1 == 0)).bind fun _ =>
  (fmul 4503599627370496 adj).bind fun mn =>
  (need (!(fgt mn 9218868437227405311))).bind fun _ =>
  (need (isNum mn)).bind fun _ =>
  (need (!(feq 0 mn))).bind fun _ =>
  (need (!(fgt 0 mn))).bind fun _ =>
  (fsub 4746794007244308480 off).bind fun c1 =>
  (fdiv c1 mult).bind fun c2 =>
  (fsub c2 4607182418800017408).bind fun c3 =>
  (exp2F c3).bind fun ex2 =>
  (need (ex2 == 9218868437227405312)).bind fun _ =>
  (expF 4649451482093607557).bind fun ex3 =>
  (fmul 4611686018427387904 adj).bind fun d1 =>
  (fdiv ex3 d1).bind fun d2 =>
  (fadd adj 4607182418800017408).bind fun d3 =>
  (fmul d2 d3).bind fun mx =>
  (need (!(fgt (negF mx) 9218868437227405311))).bind fun _ =>
  (need (isNum mx)).bind fun _ =>
  (need (!(flt 9218868437227405312 mx))).bind fun _ =>
  some (mult, mn, mx)

set_option maxRecDepth 100000 in
set_option maxHeartbeats 1000000 in
theorem newCub_any (g : Nat) (off : Nat) (out0 : Nat) (out1 : Nat) (out2 : Nat) (w : World) (h : newCubF g off = some (out0, out1, out2)) : Calls Try.prog 30 #[.float .f64 g, .float .f64 off] w fun e w' => Made 90 g off out0 out1 out2 w e w' := by
  unfold newCubF at h
  simp only [Option.bind_eq_some_iff] at h
  obtain ⟨_u1, e1, l, e2, mult, e3, adj, e4, a1, e5, a2, e6, a3, e7, ex1, e8, _u9, e9, mn, e12, _u13, e13, _u14, e14, _u15, e15, _u16, e16, c1, e17, c2, e18, c3, e19, ex2, e20, _u21, e21, ex3, e24, d1, e25, d2, e26, d3, e27, mx, e28, _u29, e29, _u30, e30, _u31, e31, hout⟩ := h
  simp only [Option.some.injEq, Prod.mk.injEq] at hout
  obtain ⟨ho0, ho1, ho2⟩ := hout
  have q1 : (FloatKind.f64.format.order g 4607182418800017408 == some .lt || FloatKind.f64.format.order g 4607182418800017408 == some .eq) = false := need_not e1
  have q2 := fun w => log2_any g l w e2
  have q3 := fun w : World => run_float_arith (P := Try.prog) w .quo 22 .f64 4607182418800017408 l mult e3
  have q4 := fun w => pow_any g 4607226943766636671 adj w e4
  have q5 := fun w : World => run_float_arith (P := Try.prog) w .sub 22 .f64 13970166044103278592 off a1 e5
  have q6 := fun w : World => run_float_arith (P := Try.prog) w .quo 22 .f64 a1 mult a2 e6
  have q7 := fun w : World => run_float_arith (P := Try.prog) w .add 22 .f64 a2 4607182418800017408 a3 e7
  have q8 := fun w => exp2_any a3 ex1 w e8
  have q9 := need_is e9
  have hx1 : ex1 = 0 := by simpa using q9
  subst hx1
  have q12 := fun w : World => run_float_arith (P := Try.prog) w .mul 22 .f64 4503599627370496 adj mn e12
  have q13 : (FloatKind.f64.format.order mn 9218868437227405311 == some .gt) = false := need_not e13
  have q14 := need_is e14
  have q15 : (FloatKind.f64.format.order 0 mn == some .eq) = false := need_not e15
  have q16 : (FloatKind.f64.format.order 0 mn == some .gt) = false := need_not e16
  have q17 := fun w : World => run_float_arith (P := Try.prog) w .sub 22 .f64 4746794007244308480 off c1 e17
  have q18 := fun w : World => run_float_arith (P := Try.prog) w .quo 22 .f64 c1 mult c2 e18
  have q19 := fun w : World => run_float_arith (P := Try.prog) w .sub 22 .f64 c2 4607182418800017408 c3 e19
  have q20 := fun w => exp2_any c3 ex2 w e20
  have q21 := need_is e21
  have hx2 : ex2 = 9218868437227405312 := by simpa using q21
  subst hx2
  have q24 := fun w => exp_any 4649451482093607557 ex3 w e24
  have q25 := fun w : World => run_float_arith (P := Try.prog) w .mul 22 .f64 4611686018427387904 adj d1 e25
  have q26 := fun w : World => run_float_arith (P := Try.prog) w .quo 22 .f64 ex3 d1 d2 e26
  have q27 := fun w : World => run_float_arith (P := Try.prog) w .add 22 .f64 adj 4607182418800017408 d3 e27
  have q28 := fun w : World => run_float_arith (P := Try.prog) w .mul 22 .f64 d2 d3 mx e28
  have q29 := need_not e29
  have q30 := need_is e30
  have q31 : (FloatKind.f64.format.order 9218868437227405312 mx == some .lt) = false := need_not e31
  clear e1 e2 e3 e4 e5 e6 e7 e8 e9 e12 e13 e14 e15 e16 e17 e18 e19 e20 e21 e24 e25 e26 e27 e28 e29 e30 e31
  subst ho0 ho1 ho2
  have hmax := fun w => max_any mn w q13 q14 q15 q16
  have hmin := fun w => min_any mx w q29 q30 q31
  go_enter Try.func30, Try.ntmps30
  go_wp2_with (first | (go_at_call 40; with_reducible refine (hmax w).mono ?_; rintro e w' ⟨rfl, rfl⟩) | (go_at_call 42; with_reducible refine (hmin w).mono ?_; rintro e w' ⟨rfl, rfl⟩) | (first | (go_at_call 34; with_reducible refine (q2 w).mono ?_; rintro e w' ⟨rfl, rfl⟩) | (go_at_call 33; with_reducible refine (q4 w).mono ?_; rintro e w' ⟨rfl, rfl⟩) | (go_at_call 43; with_reducible refine (q8 w).mono ?_; rintro e w' ⟨rfl, rfl⟩) | (go_at_call 43; with_reducible refine (q20 w).mono ?_; rintro e w' ⟨rfl, rfl⟩) | (go_at_call 41; with_reducible refine (q24 w).mono ?_; rintro e w' ⟨rfl, rfl⟩)))
  go_ret2
  exact ⟨w.heap.size, rfl, Nat.le_refl _, heap_alloc_new w _, (Below.refl _ w).alloc (Nat.le_refl _) _⟩

/-- ddsketch/pub/skmapping.NewLogarithmicMapping, plainly. -/
def ofLogF (a : Nat) : Option (Nat × Nat × Nat × Nat × Nat) :=
  (need (!(fle a 0))).bind fun _ =>
  (need (!(fge a 4607182418800017408))).bind fun _ =>
  (fadd 4607182418800017408 a).bind fun n =>
  (fsub 4607182418800017408 a).bind fun d =>
  (fdiv n d).bind fun g =>
  (some (0)).bind fun off =>
  (newLogF g 0).bind fun ⟨mult, mn, mx⟩ =>
  some (g, off, mult, mn, mx)

set_option maxRecDepth 100000 in
set_option maxHeartbeats 400000 in
theorem ofLog_any (a : Nat) (out0 : Nat) (out1 : Nat) (out2 : Nat) (out3 : Nat) (out4 : Nat) (w : World) (h : ofLogF a = some (out0, out1, out2, out3, out4)) : Calls Try.prog 21 #[.float .f64 a] w fun e w' => Made 88 out0 out1 out2 out3 out4 w e w' := by
  unfold ofLogF at h
  simp only [Option.bind_eq_some_iff, Prod.exists] at h
  obtain ⟨_u1, e1, _u2, e2, n, e3, d, e4, g, e5, off, e6, mult, mn, mx, e8, hout⟩ := h
  simp only [Option.some.injEq, Prod.mk.injEq] at hout
  obtain ⟨ho0, ho1, ho2, ho3, ho4⟩ := hout
  have q1 : (FloatKind.f64.format.order a 0 == some .lt || FloatKind.f64.format.order a 0 == some .eq) = false := need_not e1
  have q2 : (FloatKind.f64.format.order a 4607182418800017408 == some .gt || FloatKind.f64.format.order a 4607182418800017408 == some .eq) = false := need_not e2
  have q3 := fun w : World => run_float_arith (P := Try.prog) w .add 22 .f64 4607182418800017408 a n e3
  have q4 := fun w : World => run_float_arith (P := Try.prog) w .sub 22 .f64 4607182418800017408 a d e4
  have q5 := fun w : World => run_float_arith (P := Try.prog) w .quo 22 .f64 n d g e5
  have q6 := Option.some.inj e6
  subst q6
  have q8 := fun w => newLog_any g 0 mult mn mx w e8
  clear e1 e2 e3 e4 e5 e6 e8
  subst ho0 ho1 ho2 ho3 ho4
  go_enter Try.func21, Try.ntmps21
  go_wp2_with (first | (go_at_call 26; (with_reducible refine (q8 w).mono ?_); rintro e w' ⟨p, rfl, hp, hh, hb⟩) | fail)
  go_ret2
  exact ⟨p, rfl, hp, hh, hb⟩

/-- ddsketch/pub/skmapping.NewLinearlyInterpolatedMapping, plainly. -/
def ofLinF (a : Nat) : Option (Nat × Nat × Nat × Nat × Nat) :=
  (need (!(fle a 0))).bind fun _ =>
  (need (!(fge a 4607182418800017408))).bind fun _ =>
  (fadd 4607182418800017408 a).bind fun n =>
  (fsub 4607182418800017408 a).bind fun d =>
  (fdiv n d).bind fun b =>
  (powF b 4604418534313441775).bind fun g =>
  (log2F g).bind fun l =>
  (fdiv 4607182418800017408 l).bind fun off =>
  (newLinF g off).bind fun ⟨mult, mn, mx⟩ =>
  some (g, off, mult, mn, mx)

set_option maxRecDepth 100000 in
set_option maxHeartbeats 400000 in
theorem ofLin_any (a : Nat) (out0 : Nat) (out1 : Nat) (out2 : Nat) (out3 : Nat) (out4 : Nat) (w : World) (h : ofLinF a = some (out0, out1, out2, out3, out4)) : Calls Try.prog 22 #[.float .f64 a] w fun e w' => Made 89 out0 out1 out2 out3 out4 w e w' := by
  unfold ofLinF at h
  simp only [Option.bind_eq_some_iff, Prod.exists] at h
  obtain ⟨_u1, e1, _u2, e2, n, e3, d, e4, b, e5, g, e6, l, e7, off, e8, mult, mn, mx, e9, hout⟩ := h
  simp only [Option.some.injEq, Prod.mk.injEq] at hout
  obtain ⟨ho0, ho1, ho2, ho3, ho4⟩ := hout
  have q1 : (FloatKind.f64.format.order a 0 == some .lt || FloatKind.f64.format.order a 0 == some .eq) = false := need_not e1
  have q2 : (FloatKind.f64.format.order a 4607182418800017408 == some .gt || FloatKind.f64.format.order a 4607182418800017408 == some .eq) = false := need_not e2
  have q3 := fun w : World => run_float_arith (P := Try.prog) w .add 22 .f64 4607182418800017408 a n e3
  have q4 := fun w : World => run_float_arith (P := Try.prog) w .sub 22 .f64 4607182418800017408 a d e4
  have q5 := fun w : World => run_float_arith (P := Try.prog) w .quo 22 .f64 n d b e5
  have q6 := fun w => pow_any b 4604418534313441775 g w e6
  have q7 := fun w => log2_any g l w e7
  have q8 := fun w : World => run_float_arith (P := Try.prog) w .quo 22 .f64 4607182418800017408 l off e8
  have q9 := fun w => newLin_any g off mult mn mx w e9
  clear e1 e2 e3 e4 e5 e6 e7 e8 e9
  subst ho0 ho1 ho2 ho3 ho4
  go_enter Try.func22, Try.ntmps22
  go_wp2_with (first | (go_at_call 28; (with_reducible refine (q9 w).mono ?_); rintro e w' ⟨p, rfl, hp, hh, hb⟩) | (first | (go_at_call 33; with_reducible refine (q6 w).mono ?_; rintro e w' ⟨rfl, rfl⟩) | (go_at_call 34; with_reducible refine (q7 w).mono ?_; rintro e w' ⟨rfl, rfl⟩)))
  go_ret2
  exact ⟨p, rfl, hp, hh, hb⟩

/-- ddsketch/pub/skmapping.NewCubicallyInterpolatedMapping, plainly. -/
def ofCubF (a : Nat) : Option (Nat × Nat × Nat × Nat × Nat) :=
  (need (!(fle a 0))).bind fun _ =>
  (need (!(fge a 4607182418800017408))).bind fun _ =>
  (fadd 4607182418800017408 a).bind fun n =>
  (fsub 4607182418800017408 a).bind fun d =>
  (fdiv n d).bind fun b =>
  (powF b 4607094240642655501).bind fun g =>
  (some (0)).bind fun off =>
  (newCubF g 0).bind fun ⟨mult, mn, mx⟩ =>
  some (g, off, mult, mn, mx)

set_option maxRecDepth 100000 in
set_option maxHeartbeats 400000 in
theorem ofCub_any (a : Nat) (out0 : Nat) (out1 : Nat) (out2 : Nat) (out3 : Nat) (out4 : Nat) (w : World) (h : ofCubF a = some (out0, out1, out2, out3, out4)) : Calls Try.prog 23 #[.float .f64 a] w fun e w' => Made 90 out0 out1 out2 out3 out4 w e w' := by
  unfold ofCubF at h
  simp only [Option.bind_eq_some_iff, Prod.exists] at h
  obtain ⟨_u1, e1, _u2, e2, n, e3, d, e4, b, e5, g, e6, off, e7, mult, mn, mx, e9, hout⟩ := h
  simp only [Option.some.injEq, Prod.mk.injEq] at hout
  obtain ⟨ho0, ho1, ho2, ho3, ho4⟩ := hout
  have q1 : (FloatKind.f64.format.order a 0 == some .lt || FloatKind.f64.format.order a 0 == some .eq) = false := need_not e1
  have q2 : (FloatKind.f64.format.order a 4607182418800017408 == some .gt || FloatKind.f64.format.order a 4607182418800017408 == some .eq) = false := need_not e2
  have q3 := fun w : World => run_float_arith (P := Try.prog) w .add 22 .f64 4607182418800017408 a n e3
  have q4 := fun w : World => run_float_arith (P := Try.prog) w .sub 22 .f64 4607182418800017408 a d e4
  have q5 := fun w : World => run_float_arith (P := Try.prog) w .quo 22 .f64 n d b e5
  have q6 := fun w => pow_any b 4607094240642655501 g w e6
  have q7 := Option.some.inj e7
  subst q7
  have q9 := fun w => newCub_any g 0 mult mn mx w e9
  clear e1 e2 e3 e4 e5 e6 e7 e9
  subst ho0 ho1 ho2 ho3 ho4
  go_enter Try.func23, Try.ntmps23
  go_wp2_with (first | (go_at_call 30; (with_reducible refine (q9 w).mono ?_); rintro e w' ⟨p, rfl, hp, hh, hb⟩) | (first | (go_at_call 33; with_reducible refine (q6 w).mono ?_; rintro e w' ⟨rfl, rfl⟩)))
  go_ret2
  exact ⟨p, rfl, hp, hh, hb⟩
end Go.Proofs.Ytgommnmmifgbgaa
end
/-
  impl.mapped: a mapping of each kind.
-/
section
namespace Go.Proofs.Ytgommnmmifgbgaa
open Go.RowKit

/-- A mapping as an interface value, of the pointer type tP, its struct of type t. -/
def MadeI (tP t : TypeId) (g off mult mn mx : Nat) (w : World) (e : Ending) (w' : World) : Prop :=
  ∃ p, e = .returned (.tuple #[.iface tP (.pointer (some ⟨p, 0, none⟩)), .bool true]) ∧ w.heap.size ≤ p ∧ w'.heap[p]? = some (.cells #[.float .f64 g, .float .f64 off, .float .f64 mult, .float .f64 mn, .float .f64 mx] t (0, 0)) ∧ Below w.heap.size w w'

set_option maxRecDepth 100000 in
set_option maxHeartbeats 800000 in
theorem mapped_log (a g off mult mn mx : Nat) (w : World) (h : ofLogF a = some (g, off, mult, mn, mx)) : Calls Try.prog 13 #[.int .i64 0, .float .f64 a] w fun e w' => MadeI 60 88 g off mult mn mx w e w' := by
  have H := fun w => ofLog_any a g off mult mn mx w h
  clear h
  go_enter Try.func13, Try.ntmps13
  go_wp2_with (go_at_call 21; (with_reducible refine (H w).mono ?_); rintro e w' ⟨p, rfl, hp, hh, hb⟩)
  go_region
  go_wp2
  go_ret2
  exact ⟨p, rfl, hp, hh, hb.drew⟩

set_option maxRecDepth 100000 in
set_option maxHeartbeats 800000 in
theorem mapped_lin (a g off mult mn mx : Nat) (w : World) (h : ofLinF a = some (g, off, mult, mn, mx)) : Calls Try.prog 13 #[.int .i64 1, .float .f64 a] w fun e w' => MadeI 63 89 g off mult mn mx w e w' := by
  have H := fun w => ofLin_any a g off mult mn mx w h
  clear h
  go_enter Try.func13, Try.ntmps13
  go_wp2_with (go_at_call 22; (with_reducible refine (H w).mono ?_); rintro e w' ⟨p, rfl, hp, hh, hb⟩)
  go_region
  go_wp2
  go_ret2
  exact ⟨p, rfl, hp, hh, hb.drew⟩

set_option maxRecDepth 100000 in
set_option maxHeartbeats 800000 in
theorem mapped_cub (a g off mult mn mx : Nat) (w : World) (h : ofCubF a = some (g, off, mult, mn, mx)) : Calls Try.prog 13 #[.int .i64 2, .float .f64 a] w fun e w' => MadeI 66 90 g off mult mn mx w e w' := by
  have H := fun w => ofCub_any a g off mult mn mx w h
  clear h
  go_enter Try.func13, Try.ntmps13
  go_wp2_with (go_at_call 23; (with_reducible refine (H w).mono ?_); rintro e w' ⟨p, rfl, hp, hh, hb⟩)
  go_region
  go_wp2
  go_ret2
  exact ⟨p, rfl, hp, hh, hb.drew⟩
end Go.Proofs.Ytgommnmmifgbgaa
end
/-
  quietly: calls what it is handed; where that returns, the answer is true.
-/
section
namespace Go.Proofs.Ytgommnmmifgbgaa
open Go.RowKit

theorem quiet_idle (p : Addr) (w : World) :
    CallsD Try.prog 20 #[.pointer (some p)] .returning w fun e u' w' => e = .returned (.tuple #[]) ∧ u' = .returning ∧ w' = w := by
  refine callsD_of_wpS Try.func20 rfl fun c₀ cs hu => ?_
  apply wpS_seq
  apply wpS_region
  simp [wpOpsS, go_sem, recoverD, hu, Try.ntmps20, Exit.thenS]
  refine wpS_cond (t := false) (by simp [Act.eval, Array.replicate]) ?_
  simp only [Bool.false_eq_true, if_false]
  refine wpS_of_wp (wp_skip ?_)
  cases c₀
  simp_all [bodyPostS, results, Try.results20]

/-- What the call of the closure leaves, and the answer laid in the named result's cell. -/
def Quieted (Q : World → Prop) (b : Nat) (w' : World) : Prop := ∃ w1, Q w1 ∧ w' = w1.setCell ⟨b, 0, none⟩ (.bool true)

set_option maxRecDepth 100000 in
theorem quietly_any (K : FuncId) (caps : Array Value) (w : World) (Q : World → Prop) (hK : ∀ w, (callFunc K caps).run Try.prog w = .ok (.enter K caps) w)
    (hf : Calls Try.prog K caps (w.alloc (.cells #[.bool false] 4)) fun e w1 => e = .returned (.tuple #[]) ∧ w1.heap[w.heap.size]? = some (.cells #[.bool false] 4 (0, 0)) ∧ Q w1) :
    Calls Try.prog 11 #[.func (.func K) #[] caps] w fun e w' => e = .returned (.bool true) ∧ Quieted Q w.heap.size w' := by
  have hmf : ∀ (fn : Fn) (first cap : Array Value) (w : World), (Instr.makeFunc fn first cap).run Try.prog w = .ok (.func fn first cap) w := fun _ _ _ _ => rfl
  go_enter_defers Try.func11, Try.ntmps11
  go_wp2_with fail
  refine hf.mono ?_
  rintro e w1 ⟨rfl, hc, hq⟩
  have hcc := cell_of_one hc
  have hff := free_of_one hc
  go_wp2
  refine leaves_cons (f := 20) (args := #[.pointer (some ⟨w.heap.size, 0, none⟩)]) (by simp) (by simp [go_sem]) ?_
  refine (quiet_idle ⟨w.heap.size, 0, none⟩ _).mono ?_
  rintro e u' w'' ⟨rfl, rfl, rfl⟩
  have hc2 := cell_of_one (one_setCell (u := .bool true) hc)
  simp only [Leaves, settle]
  refine ⟨.bool true, ?_, rfl, w1, hq, rfl⟩
  simp [results, Try.results11, go_sem, hc2]
end Go.Proofs.Ytgommnmmifgbgaa
end
/-
  coded: the bytes that what it is handed appends to an empty slice.
-/
section
namespace Go.Proofs.Ytgommnmmifgbgaa
open Go.RowKit

/-- A call of a function that has a Go body: it is entered. -/
theorem run_enter {P : Program} {f : FuncId} {fn : Func} {c : Code} (hf : P.funcs[f]? = some fn) (hname : (fn.name == "runtime.NumGoroutine") = false) (hb : fn.body = some c) (args : Array Value) (w : World) :
    (callFunc f args).run P w = .ok (.enter f args) w := by
  have h1 : fn.name ≠ "runtime.NumGoroutine" := by simpa using hname
  simp [callFunc, hf, h1, hb]

/-- A value that is a slice of bytes with a row of the call's own, from block B on. -/
def Bytes (B : Nat) (w' : World) (s : Value) (ys : List Nat) : Prop :=
  w'.ownsRow 0 5 1 s ys.length (cu8 ys) ∧ ∀ k, s.ownBlock = some k → B ≤ k

/-- What coded$1 leaves: in the variable 'out' (block b) the bytes. -/
def CodedIn (w w' : World) (b : Nat) (ys : List Nat) : Prop :=
  ∃ s, w'.heap[b]? = some (.cells #[s] 36 (0, 0)) ∧ Bytes w.heap.size w' s ys ∧ Fr (fun k => k = b) w w'

set_option maxRecDepth 100000 in
theorem coded1_any (pf po : Nat) (K : FuncId) (caps : Array Value) (ys : List Nat) (so : Value) (w : World)
    (hpf : w.heap[pf]? = some (.cells #[.func (.func K) #[] caps] 47 (0, 0))) (hpo : w.heap[po]? = some (.cells #[so] 36 (0, 0)))
    (hK : ∀ p w, (callFunc K (#[.pointer (some p)] ++ caps)).run Try.prog w = .ok (.enter K (#[.pointer (some p)] ++ caps)) w)
    (hf : ∀ w1 p r, Buf 36 5 w1 p r [] → Fr (fun _ => False) w w1 → w.heap.size ≤ p → Calls Try.prog K (#[.pointer (some ⟨p, 0, none⟩)] ++ caps) w1 fun e w' => e = .returned (.tuple #[]) ∧ GrewTo 36 5 w1 w' p r ys) :
    Calls Try.prog 32 #[.pointer (some ⟨pf, 0, none⟩), .pointer (some ⟨po, 0, none⟩)] w fun e w' => e = .returned (.tuple #[]) ∧ CodedIn w w' po ys := by
  have hc1 := cell_of_one hpf
  have hc2 := cell_of_one hpo
  have hl1 := lt_of_block hpf
  have hl2 := lt_of_block hpo
  have H := hf ((w.alloc (.cells #[] 5)).alloc (.cells #[.slice (some ⟨w.heap.size, 0, none⟩) 0 0] 36)) (w.heap.size + 1) (some w.heap.size)
    ⟨.slice (some ⟨w.heap.size, 0, none⟩) 0 0, by have := heap_alloc_new (w.alloc (.cells #[] 5)) (.cells #[.slice (some ⟨w.heap.size, 0, none⟩) 0 0] 36); simpa using this,
      (World.ownsRow_made w #[] 0 (Nat.zero_le _) (by decide) rfl).alloc _, rfl⟩ (((Fr.refl _ w).alloc _).alloc _) (by omega)
  clear hf
  go_enter Try.func32, Try.ntmps32
  go_wp2_with fail
  refine H.mono ?_
  clear H
  rintro e w1 ⟨rfl, r', ⟨s, hs, hown, hrr⟩, hfr, hr'⟩
  have hpo1 : w1.heap[po]? = some (.cells #[so] 36 (0, 0)) := hfr.heap (by rw [Below.heap_alloc _ _ _ (by simp; omega), Below.heap_alloc _ _ _ (by omega)]; exact hpo) (by simp; omega)
  have g : CodedIn w (w1.setCell ⟨po, 0, none⟩ s) po ys := by
    have hblk : ∀ k, s.ownBlock = some k → w.heap.size ≤ k := by
      intro k hk
      rw [hrr] at hk
      rcases hr' with h | ⟨j, h, hj⟩
      · rw [h] at hk; cases hk; exact Nat.le_refl _
      · rw [h] at hk; cases hk; simp at hj; omega
    refine ⟨s, one_setCell hpo1, ⟨ownsRow_setCell_other hown ?_ _, hblk⟩, ?_⟩
    · intro hk; have := hblk _ hk; simp at this; omega
    · have h0 : Fr (fun k => w.heap.size ≤ k) w w1 := (((Fr.refl _ w).alloc _).alloc _).trans hfr (fun _ _ h => h) (by intro i hi h; rcases h with h | h <;> first | omega | (simp at h; omega))
      exact ((h0.mono (U := fun k => k = po ∨ w.heap.size ≤ k) (fun _ _ h => .inr h)).setCell (p := ⟨po, 0, none⟩) (fun _ => .inl rfl) s).mono (by intro i hi h; rcases h with h | h <;> omega)
  obtain ⟨ao, n1, cp1, hv1⟩ := owns_slice hown
  rw [hv1] at g hs
  have hc3 := cell_of_one hs
  have hc4 := cell_of_one hpo1
  have hf4 := free_of_one hpo1
  have G := Lib.hid g
  clear g hs hown hrr hfr hr' hv1 hpo1 hpo hpf hc1 hc2
  go_wp2
  go_end0
  exact ⟨rfl, G.out⟩

/-- It hands back a slice of the call's own with the bytes ys. -/
def GivesBytes (ys : List Nat) (w : World) (e : Ending) (w' : World) : Prop :=
  ∃ ao n c, e = .returned (.slice ao n c) ∧ OwnB 5 w w' (.slice ao n c) ys

set_option maxRecDepth 100000 in
theorem coded_any (K : FuncId) (caps : Array Value) (ys : List Nat) (w : World)
    (hK : ∀ p w, (callFunc K (#[.pointer (some p)] ++ caps)).run Try.prog w = .ok (.enter K (#[.pointer (some p)] ++ caps)) w)
    (hf : ∀ w1 p r, Buf 36 5 w1 p r [] → Below w.heap.size w w1 → w.heap.size ≤ p → Calls Try.prog K (#[.pointer (some ⟨p, 0, none⟩)] ++ caps) w1 fun e w' => e = .returned (.tuple #[]) ∧ GrewTo 36 5 w1 w' p r ys) :
    Calls Try.prog 17 #[.func (.func K) #[] caps] w fun e w' => GivesBytes ys w e w' := by
  have hmf : ∀ (fn : Fn) (first cap : Array Value) (w : World), (Instr.makeFunc fn first cap).run Try.prog w = .ok (.func fn first cap) w := fun _ _ _ _ => rfl
  have e1 : ∀ o : Obj, (w.alloc o).heap.size = w.heap.size + 1 := fun o => by simp
  have hb0 : ∀ o1 o2 o3 : Obj, Below w.heap.size w (((w.alloc o1).alloc o2).alloc o3) := fun o1 o2 o3 => (((Below.refl _ w).alloc (Nat.le_refl _) _).alloc (by simp) _).alloc (by simp; omega) _
  have H := quietly_any 32 #[.pointer (some ⟨w.heap.size, 0, none⟩), .pointer (some ⟨w.heap.size + 1, 0, none⟩)]
    ((w.alloc (.cells #[.func (.func K) #[] caps] 47)).alloc (.cells #[.slice none 0 0] 36))
    (CodedIn (((w.alloc (.cells #[.func (.func K) #[] caps] 47)).alloc (.cells #[.slice none 0 0] 36)).alloc (.cells #[.bool false] 4)) · (w.heap.size + 1) ys)
    (fun w => run_enter Try.func32 (by kernel_rfl) rfl _ w)
    ((coded1_any w.heap.size (w.heap.size + 1) K caps ys (.slice none 0 0) _ ?h1 ?h2 hK ?h3).mono ?h4)
  case h1 => rw [Below.heap_alloc _ _ _ (by simp; omega), Below.heap_alloc _ _ _ (by simp)]; exact heap_alloc_new w _
  case h2 => rw [Below.heap_alloc _ _ _ (by simp)]; have := heap_alloc_new (w.alloc (.cells #[.func (.func K) #[] caps] 47)) (.cells #[.slice none 0 0] 36); simpa using this
  case h3 =>
    intro w1 p r hb hfr hp
    exact hf w1 p r hb ((hb0 _ _ _).trans (hfr.below (B := w.heap.size) (fun _ h => h.elim) (by simp; omega))) (by simp at hp; omega)
  case h4 =>
    rintro e w1 ⟨rfl, s, hs, hby, hfr⟩
    refine ⟨rfl, ?_, s, hs, hby, hfr⟩
    have := heap_alloc_new ((w.alloc (.cells #[.func (.func K) #[] caps] 47)).alloc (.cells #[.slice none 0 0] 36)) (.cells #[.bool false] 4)
    exact hfr.heap this (by simp)
  clear hf hK
  go_enter Try.func17, Try.ntmps17
  go_wp2_with fail
  refine H.mono ?_
  clear H
  rintro e w2 ⟨rfl, w1, ⟨s, hs, ⟨hown, hblk⟩, hfr⟩, rfl⟩
  have hz : w.heap.size + 3 ≤ w1.heap.size := by have := hfr.size; simp at this; omega
  have hs2 : (w1.setCell ⟨w.heap.size + 2, 0, none⟩ (.bool true)).heap[w.heap.size + 1]? = some (.cells #[s] 36 (0, 0)) := by
    rw [Below.heap_setCell _ _ _ _ (by simp)]; exact hs
  have hb1 : Below w.heap.size w w1 := (hb0 _ _ _).trans (hfr.below (B := w.heap.size) (fun _ h => by omega) (by simp; omega))
  have g : ∀ u, Bytes w.heap.size ((w1.setCell ⟨w.heap.size + 2, 0, none⟩ (.bool true)).setCell ⟨w.heap.size + 1, 0, none⟩ u) s ys ∧ Below w.heap.size w ((w1.setCell ⟨w.heap.size + 2, 0, none⟩ (.bool true)).setCell ⟨w.heap.size + 1, 0, none⟩ u) := by
    intro u
    refine ⟨⟨ownsRow_setCell_other (ownsRow_setCell_other hown ?_ _) ?_ _, ?_⟩, (hb1.setCell (by simp) _).setCell (by simp) _⟩
    · intro hk; have := hblk _ hk; simp at this; omega
    · intro hk; have := hblk _ hk; simp at this; omega
    · intro k hk; have := hblk _ hk; simp at this; omega
  obtain ⟨ao, n1, cp1, hv1⟩ := owns_slice hown
  rw [hv1] at g hs2
  have hc3 := cell_of_one hs2
  have hf3 := free_of_one hs2
  have hc4 := cell_of_one (one_setCell (u := .slice ao n1 cp1) hs2)
  have G := Lib.hid g
  clear g hs hown hfr hblk hv1 hs2 hb1 hb0
  have e2 : ∀ o1 o2 : Obj, ((w.alloc o1).alloc o2).heap.size = w.heap.size + 2 := fun o1 o2 => by simp
  go_wp2
  exact bodyPost_ret (v := .slice ao n1 cp1) (by simp [results, Try.results17, go_sem, hc4]) rfl ⟨ao, n1, cp1, rfl, G.out _⟩
end Go.Proofs.Ytgommnmmifgbgaa
end
/-
  A mapping of a kind, as an interface's value: its methods, for all kinds alike.
-/
section
namespace Go.Proofs.Ytgommnmmifgbgaa
open Go.RowKit

/-- What a mapping of a kind is, and does. -/
structure MapKind (kind : Int) (of_ : Nat → Option (Nat × Nat × Nat × Nat × Nat)) (acc : Nat → Option Nat) (idx : Nat → Nat → Nat → Option Int) (lower : Nat → Nat → Int → Option Nat) (value : Nat → Nat → Nat → Int → Option Nat) where
  tP : TypeId
  t : TypeId
  fIdx : FuncId
  fVal : FuncId
  fLow : FuncId
  fAcc : FuncId
  fMin : FuncId
  fMax : FuncId
  ht : t ≠ 22
  mIdx : ∀ p w, (method 229 tP (.pointer (some ⟨p, 0, none⟩)) "Index").run Try.prog w = .ok (fIdx, .pointer (some ⟨p, 0, none⟩)) w
  mVal : ∀ p w, (method 229 tP (.pointer (some ⟨p, 0, none⟩)) "Value").run Try.prog w = .ok (fVal, .pointer (some ⟨p, 0, none⟩)) w
  mLow : ∀ p w, (method 229 tP (.pointer (some ⟨p, 0, none⟩)) "LowerBound").run Try.prog w = .ok (fLow, .pointer (some ⟨p, 0, none⟩)) w
  mAcc : ∀ p w, (method 229 tP (.pointer (some ⟨p, 0, none⟩)) "RelativeAccuracy").run Try.prog w = .ok (fAcc, .pointer (some ⟨p, 0, none⟩)) w
  mMin : ∀ p w, (method 229 tP (.pointer (some ⟨p, 0, none⟩)) "MinIndexableValue").run Try.prog w = .ok (fMin, .pointer (some ⟨p, 0, none⟩)) w
  mMax : ∀ p w, (method 229 tP (.pointer (some ⟨p, 0, none⟩)) "MaxIndexableValue").run Try.prog w = .ok (fMax, .pointer (some ⟨p, 0, none⟩)) w
  eIdx : ∀ args w, (callFunc fIdx args).run Try.prog w = .ok (.enter fIdx args) w
  eVal : ∀ args w, (callFunc fVal args).run Try.prog w = .ok (.enter fVal args) w
  eLow : ∀ args w, (callFunc fLow args).run Try.prog w = .ok (.enter fLow args) w
  eAcc : ∀ args w, (callFunc fAcc args).run Try.prog w = .ok (.enter fAcc args) w
  eMin : ∀ args w, (callFunc fMin args).run Try.prog w = .ok (.enter fMin args) w
  eMax : ∀ args w, (callFunc fMax args).run Try.prog w = .ok (.enter fMax args) w
  made : ∀ a g off mult mn mx w, of_ a = some (g, off, mult, mn, mx) → Calls Try.prog 13 #[.int .i64 kind, .float .f64 a] w fun e w' => MadeI tP t g off mult mn mx w e w'
  cIdx : ∀ m g off mult mn mx v i w, Map5 t w m g off mult mn mx → idx off mult v = some i → Calls Try.prog fIdx #[.pointer (some ⟨m, 0, none⟩), .float .f64 v] w fun e w' => Reads (.int .i64 i) w e w'
  cVal : ∀ m g off mult mn mx i r w, Map5 t w m g off mult mn mx → value g off mult i = some r → Calls Try.prog fVal #[.pointer (some ⟨m, 0, none⟩), .int .i64 i] w fun e w' => Reads (.float .f64 r) w e w'
  cLow : ∀ m g off mult mn mx i r w, Map5 t w m g off mult mn mx → lower off mult i = some r → Calls Try.prog fLow #[.pointer (some ⟨m, 0, none⟩), .int .i64 i] w fun e w' => Reads (.float .f64 r) w e w'
  cAcc : ∀ m g off mult mn mx r w, Map5 t w m g off mult mn mx → acc g = some r → Calls Try.prog fAcc #[.pointer (some ⟨m, 0, none⟩)] w fun e w' => e = .returned (.float .f64 r) ∧ w = w'
  cMin : ∀ m g off mult mn mx w, Map5 t w m g off mult mn mx → Calls Try.prog fMin #[.pointer (some ⟨m, 0, none⟩)] w fun e w' => e = .returned (.float .f64 mn) ∧ w = w'
  cMax : ∀ m g off mult mn mx w, Map5 t w m g off mult mn mx → Calls Try.prog fMax #[.pointer (some ⟨m, 0, none⟩)] w fun e w' => e = .returned (.float .f64 mx) ∧ w = w'

def kindLogM : MapKind 0 ofLogF accLogF idxLogF lowerLogF valueLogF where
  tP := 60
  t := 88
  fIdx := 93
  fVal := 98
  fLow := 94
  fAcc := 97
  fMin := 96
  fMax := 95
  ht := by decide
  mIdx := fun p w => by kernel_rfl
  mVal := fun p w => by kernel_rfl
  mLow := fun p w => by kernel_rfl
  mAcc := fun p w => by kernel_rfl
  mMin := fun p w => by kernel_rfl
  mMax := fun p w => by kernel_rfl
  eIdx := fun args w => run_enter Try.func93 (by kernel_rfl) rfl args w
  eVal := fun args w => run_enter Try.func98 (by kernel_rfl) rfl args w
  eLow := fun args w => run_enter Try.func94 (by kernel_rfl) rfl args w
  eAcc := fun args w => run_enter Try.func97 (by kernel_rfl) rfl args w
  eMin := fun args w => run_enter Try.func96 (by kernel_rfl) rfl args w
  eMax := fun args w => run_enter Try.func95 (by kernel_rfl) rfl args w
  made := fun a g off mult mn mx w h => mapped_log a g off mult mn mx w h
  cIdx := fun m g off mult mn mx v i w hc h => idxLog_any m g off mult mn mx v i w hc h
  cVal := fun m g off mult mn mx i r w hc h => valueLog_any m g off mult mn mx i r w hc h
  cLow := fun m g off mult mn mx i r w hc h => lowerLog_any m g off mult mn mx i r w hc h
  cAcc := fun m g off mult mn mx r w hc h => accLog_any m g off mult mn mx r w hc h
  cMin := fun m g off mult mn mx w hc => leastLog_any m g off mult mn mx w hc
  cMax := fun m g off mult mn mx w hc => mostLog_any m g off mult mn mx w hc

def kindLinM : MapKind 1 ofLinF accLinF idxLinF lowerLinF valueLinF where
  tP := 63
  t := 89
  fIdx := 105
  fVal := 110
  fLow := 106
  fAcc := 109
  fMin := 108
  fMax := 107
  ht := by decide
  mIdx := fun p w => by kernel_rfl
  mVal := fun p w => by kernel_rfl
  mLow := fun p w => by kernel_rfl
  mAcc := fun p w => by kernel_rfl
  mMin := fun p w => by kernel_rfl
  mMax := fun p w => by kernel_rfl
  eIdx := fun args w => run_enter Try.func105 (by kernel_rfl) rfl args w
  eVal := fun args w => run_enter Try.func110 (by kernel_rfl) rfl args w
  eLow := fun args w => run_enter Try.func106 (by kernel_rfl) rfl args w
  eAcc := fun args w => run_enter Try.func109 (by kernel_rfl) rfl args w
  eMin := fun args w => run_enter Try.func108 (by kernel_rfl) rfl args w
  eMax := fun args w => run_enter Try.func107 (by kernel_rfl) rfl args w
  made := fun a g off mult mn mx w h => mapped_lin a g off mult mn mx w h
  cIdx := fun m g off mult mn mx v i w hc h => idxLin_any m g off mult mn mx v i w hc h
  cVal := fun m g off mult mn mx i r w hc h => valueLin_any m g off mult mn mx i r w hc h
  cLow := fun m g off mult mn mx i r w hc h => lowerLin_any m g off mult mn mx i r w hc h
  cAcc := fun m g off mult mn mx r w hc h => accLin_any m g off mult mn mx r w hc h
  cMin := fun m g off mult mn mx w hc => leastLin_any m g off mult mn mx w hc
  cMax := fun m g off mult mn mx w hc => mostLin_any m g off mult mn mx w hc

def kindCubM : MapKind 2 ofCubF accCubF idxCubF lowerCubF valueCubF where
  tP := 66
  t := 90
  fIdx := 120
  fVal := 125
  fLow := 121
  fAcc := 124
  fMin := 123
  fMax := 122
  ht := by decide
  mIdx := fun p w => by kernel_rfl
  mVal := fun p w => by kernel_rfl
  mLow := fun p w => by kernel_rfl
  mAcc := fun p w => by kernel_rfl
  mMin := fun p w => by kernel_rfl
  mMax := fun p w => by kernel_rfl
  eIdx := fun args w => run_enter Try.func120 (by kernel_rfl) rfl args w
  eVal := fun args w => run_enter Try.func125 (by kernel_rfl) rfl args w
  eLow := fun args w => run_enter Try.func121 (by kernel_rfl) rfl args w
  eAcc := fun args w => run_enter Try.func124 (by kernel_rfl) rfl args w
  eMin := fun args w => run_enter Try.func123 (by kernel_rfl) rfl args w
  eMax := fun args w => run_enter Try.func122 (by kernel_rfl) rfl args w
  made := fun a g off mult mn mx w h => mapped_cub a g off mult mn mx w h
  cIdx := fun m g off mult mn mx v i w hc h => idxCub_any m g off mult mn mx v i w hc h
  cVal := fun m g off mult mn mx i r w hc h => valueCub_any m g off mult mn mx i r w hc h
  cLow := fun m g off mult mn mx i r w hc h => lowerCub_any m g off mult mn mx i r w hc h
  cAcc := fun m g off mult mn mx r w hc h => accCub_any m g off mult mn mx r w hc h
  cMin := fun m g off mult mn mx w hc => leastCub_any m g off mult mn mx w hc
  cMax := fun m g off mult mn mx w hc => mostCub_any m g off mult mn mx w hc
end Go.Proofs.Ytgommnmmifgbgaa
end
