/-
  expmulti,log: straight ways. (Printed by gen_math2.py.)
-/
import Derived.Test.YtllaekopaglolaaGreatHAA
section
namespace Go.Proofs.YtllaekopaglolaaGreat
open Go.RowKit
def need (b:Bool):Option Unit:=if b then some () else none
theorem zAO {b:Bool} {u:Unit} (h:need b=some u):b=true:=by cases b <;> simp_all [need]
theorem zAE {b:Bool} {u:Unit} (h:need (!b)=some u):b=false:=by cases b <;> simp_all [need]
def zGI (x:Nat) (k:Int):Option Nat :=
  (need (!(feq x 0))).bind fun _ =>
  (need (zA7 x)).bind fun _ =>
  (need (zED x)).bind fun _ =>
  (need (!(flt (absF x) 4503599627370496))).bind fun _ =>
  (some (wrap64 (wrap64 k+wrap64 (bits .and .i64 (wrap64 ((x:Int) / 4503599627370496)) 2047 - 1023)))).bind fun k1 =>
  (need (decide (-1022≤k1)&&decide (k1≤1023))).bind fun _ =>
  (some ((bits .or .u64 (bits .andNot .u64 (x:Int) 9218868437227405312) ((k1+1023)*4503599627370496)).toNat)).bind fun y =>
  (fmul 4607182418800017408 y).bind fun r =>
  some r
set_option maxRecDepth 100000 in
set_option maxHeartbeats 400000 in
theorem zHL (x:Nat) (k:Int) (out:Nat) (w:World) (h:zGI x k=some out):Calls Tryz.prog 98 #[.float .f64 x,.int .i64 k] w fun e w'=>e = .returned (.float .f64 out)∧w=w':=by
  unfold zGI at h
  simp only [Option.bind_eq_some_iff] at h
  obtain ⟨_u1,e1,_u2,e2,_u3,e3,_u4,e4,k1,e5,_u6,e6,y,e10,r,e11,hout⟩:=h
  have ho0:=Option.some.inj hout
  have q1:(FloatKind.f64.format.order x 0 == some .eq)=false:=zAE e1
  have q2:=zAO e2
  have q3:=zAO e3
  have q4:=zAE e4
  have q5:=Option.some.inj e5
  have q6:=zAO e6
  have b1:¬ k1 < -1075:=by simp at q6; omega
  have b2:¬ k1 > 1023:=by simp at q6; omega
  have b3:¬ k1 < -1022:=by simp at q6; omega
  have q10:=Option.some.inj e10
  have q11:=fun w:World=>run_float_arith (P:=Tryz.prog) w .mul 29 .f64 4607182418800017408 y r e11
  clear e1 e2 e3 e4 e5 e6 e10 e11 hout
  subst ho0
  have HX:∀ w,Calls Tryz.prog 106 #[.float .f64 x,.int .i64 k] w fun e w'=>e = .returned (.float .f64 r)∧w=w':=by
    intro w
    go_enter Tryz.func106,Tryz.ntmps106
    go_wp2_with (first | (go_at_call 68; refine (zBt x w q3).mono ?_; rintro e w' ⟨rfl,rfl⟩) | (go_at_call 67; refine (zAb x w q2).mono ?_; rintro e w' ⟨rfl,rfl⟩) | (go_at_call 108; refine (zFH x w q4).mono ?_; rintro e w' ⟨rfl,rfl⟩) | (go_at_call 88; refine (zAv x w).mono ?_; rintro e w' ⟨rfl,rfl⟩) | (go_at_call 66; refine (zAZ _ w).mono ?_; rintro e w' ⟨rfl,rfl⟩))
    go_ret
    exact ⟨rfl,rfl⟩
  go_enter Tryz.func98,Tryz.ntmps98
  go_wp2_with (go_at_call 106; refine (HX w).mono ?_; rintro e w' ⟨rfl,rfl⟩)
  go_ret
  exact ⟨rfl,rfl⟩
def zDV (hi:Nat) (lo:Nat) (k:Int):Option Nat :=
  (fsub hi lo).bind fun r =>
  (fmul r r).bind fun t =>
  (fmul t 4496342204012209360).bind fun m1 =>
  (fadd 13743786778040626161 m1).bind fun a1 =>
  (fmul t a1).bind fun m2 =>
  (fadd 4544508515198557740 m2).bind fun a2 =>
  (fmul t a2).bind fun m3 =>
  (fadd 13791923578850950547 m3).bind fun a3 =>
  (fmul t a3).bind fun m4 =>
  (fadd 4595172819793696085 m4).bind fun a4 =>
  (fmul t a4).bind fun m5 =>
  (fsub r m5).bind fun c =>
  (fmul r c).bind fun n1 =>
  (fsub 4611686018427387904 c).bind fun d1 =>
  (fdiv n1 d1).bind fun q =>
  (fsub lo q).bind fun s1 =>
  (fsub s1 hi).bind fun s2 =>
  (fsub 4607182418800017408 s2).bind fun y =>
  (zGI y k).bind fun z =>
  some z
set_option maxRecDepth 100000 in
set_option maxHeartbeats 400000 in
theorem zGP (hi:Nat) (lo:Nat) (k:Int) (out:Nat) (w:World) (h:zDV hi lo k=some out):Calls Tryz.prog 101 #[.float .f64 hi,.float .f64 lo,.int .i64 k] w fun e w'=>e = .returned (.float .f64 out)∧w=w':=by
  unfold zDV at h
  simp only [Option.bind_eq_some_iff] at h
  obtain ⟨r,e1,t,e2,m1,e3,a1,e4,m2,e5,a2,e6,m3,e7,a3,e8,m4,e9,a4,e10,m5,e11,c,e12,n1,e13,d1,e14,q,e15,s1,e16,s2,e17,y,e18,z,e19,hout⟩:=h
  have ho0:=Option.some.inj hout
  have q1:=fun w:World=>run_float_arith (P:=Tryz.prog) w .sub 29 .f64 hi lo r e1
  have q2:=fun w:World=>run_float_arith (P:=Tryz.prog) w .mul 29 .f64 r r t e2
  have q3:=fun w:World=>run_float_arith (P:=Tryz.prog) w .mul 29 .f64 t 4496342204012209360 m1 e3
  have q4:=fun w:World=>run_float_arith (P:=Tryz.prog) w .add 29 .f64 13743786778040626161 m1 a1 e4
  have q5:=fun w:World=>run_float_arith (P:=Tryz.prog) w .mul 29 .f64 t a1 m2 e5
  have q6:=fun w:World=>run_float_arith (P:=Tryz.prog) w .add 29 .f64 4544508515198557740 m2 a2 e6
  have q7:=fun w:World=>run_float_arith (P:=Tryz.prog) w .mul 29 .f64 t a2 m3 e7
  have q8:=fun w:World=>run_float_arith (P:=Tryz.prog) w .add 29 .f64 13791923578850950547 m3 a3 e8
  have q9:=fun w:World=>run_float_arith (P:=Tryz.prog) w .mul 29 .f64 t a3 m4 e9
  have q10:=fun w:World=>run_float_arith (P:=Tryz.prog) w .add 29 .f64 4595172819793696085 m4 a4 e10
  have q11:=fun w:World=>run_float_arith (P:=Tryz.prog) w .mul 29 .f64 t a4 m5 e11
  have q12:=fun w:World=>run_float_arith (P:=Tryz.prog) w .sub 29 .f64 r m5 c e12
  have q13:=fun w:World=>run_float_arith (P:=Tryz.prog) w .mul 29 .f64 r c n1 e13
  have q14:=fun w:World=>run_float_arith (P:=Tryz.prog) w .sub 29 .f64 4611686018427387904 c d1 e14
  have q15:=fun w:World=>run_float_arith (P:=Tryz.prog) w .quo 29 .f64 n1 d1 q e15
  have q16:=fun w:World=>run_float_arith (P:=Tryz.prog) w .sub 29 .f64 lo q s1 e16
  have q17:=fun w:World=>run_float_arith (P:=Tryz.prog) w .sub 29 .f64 s1 hi s2 e17
  have q18:=fun w:World=>run_float_arith (P:=Tryz.prog) w .sub 29 .f64 4607182418800017408 s2 y e18
  have q19:=fun w=>zHL y k z w e19
  clear e1 e2 e3 e4 e5 e6 e7 e8 e9 e10 e11 e12 e13 e14 e15 e16 e17 e18 e19 hout
  subst ho0
  go_enter Tryz.func101,Tryz.ntmps101
  go_wp2_with (first | (go_at_call 98; refine (q19 w).mono ?_; rintro e w' ⟨rfl,rfl⟩))
  go_ret
  exact ⟨rfl,rfl⟩
def zHc (x:Nat):Option Nat :=
  (need (zA7 x)).bind fun _ =>
  (need (!(fgt x 4649454530587146735))).bind fun _ =>
  (need (!(flt x 13873137513782915153))).bind fun _ =>
  (need (fgt x 0)).bind fun _ =>
  (need (!(flt x 0))).bind fun _ =>
  (need (flt 13704453666088419328 x)).bind fun _ =>
  (need (!(flt x 4481081629233643520))).bind fun _ =>
  (fmul 4609176140021203710 x).bind fun m =>
  (fadd m 4602678819172646912).bind fun a =>
  (floatToIntVal .f64 a .i64).bind fun k =>
  (some (floatOfInt .f64 k)).bind fun kf =>
  (fmul kf 4604418534311723008).bind fun h1 =>
  (fsub x h1).bind fun hi =>
  (fmul kf 4461442080421002358).bind fun lo =>
  (zDV hi lo k).bind fun z =>
  some z
set_option maxRecDepth 100000 in
set_option maxHeartbeats 400000 in
theorem zQo (x:Nat) (out:Nat) (w:World) (h:zHc x=some out):Calls Tryz.prog 83 #[.float .f64 x] w fun e w'=>e = .returned (.float .f64 out)∧w=w':=by
  unfold zHc at h
  simp only [Option.bind_eq_some_iff] at h
  obtain ⟨_u1,e1,_u2,e2,_u3,e3,_u4,e4,_u5,e5,_u6,e6,_u7,e7,m,e8,a,e9,k,e10,kf,e11,h1,e12,hi,e13,lo,e14,z,e15,hout⟩:=h
  have ho0:=Option.some.inj hout
  have q1:=zAO e1
  have q2:(FloatKind.f64.format.order x 4649454530587146735 == some .gt)=false:=zAE e2
  have q3:(FloatKind.f64.format.order x 13873137513782915153 == some .lt)=false:=zAE e3
  have q4:(FloatKind.f64.format.order x 0 == some .gt)=true:=zAO e4
  have q5:(FloatKind.f64.format.order x 0 == some .lt)=false:=zAE e5
  have q6:(FloatKind.f64.format.order 13704453666088419328 x == some .lt)=true:=zAO e6
  have q7:(FloatKind.f64.format.order x 4481081629233643520 == some .lt)=false:=zAE e7
  have q8:=fun w:World=>run_float_arith (P:=Tryz.prog) w .mul 29 .f64 4609176140021203710 x m e8
  have q9:=fun w:World=>run_float_arith (P:=Tryz.prog) w .add 29 .f64 m 4602678819172646912 a e9
  have q10:=fun w=>run_convert_float_int (P:=Tryz.prog) w 29 3 .f64 .i64 a k (by simp [Tryz.underlying29]) Tryz.underlying3 e10
  have q11:=Option.some.inj e11
  have q12:=fun w:World=>run_float_arith (P:=Tryz.prog) w .mul 29 .f64 kf 4604418534311723008 h1 e12
  have q13:=fun w:World=>run_float_arith (P:=Tryz.prog) w .sub 29 .f64 x h1 hi e13
  have q14:=fun w:World=>run_float_arith (P:=Tryz.prog) w .mul 29 .f64 kf 4461442080421002358 lo e14
  have q15:=fun w=>zGP hi lo k z w e15
  clear e1 e2 e3 e4 e5 e6 e7 e8 e9 e10 e11 e12 e13 e14 e15 hout
  subst ho0
  have HX:∀ w,Calls Tryz.prog 91 #[.float .f64 x] w fun e w'=>e = .returned (.float .f64 z)∧w=w':=by
    intro w
    go_enter Tryz.func91,Tryz.ntmps91
    go_wp2_with (first | (go_at_call 101; refine (q15 w).mono ?_; rintro e w' ⟨rfl,rfl⟩) | (go_at_call 67; refine (zAb x w q1).mono ?_; rintro e w' ⟨rfl,rfl⟩))
    go_ret
    exact ⟨rfl,rfl⟩
  go_enter Tryz.func83,Tryz.ntmps83
  go_wp2_with (go_at_call 91; refine (HX w).mono ?_; rintro e w' ⟨rfl,rfl⟩)
  go_ret
  exact ⟨rfl,rfl⟩
def zHd (x:Nat):Option Nat :=
  (need (zA7 x)).bind fun _ =>
  (need (!(fgt x 4649454530587146735))).bind fun _ =>
  (need (!(flt x 13873137513782915153))).bind fun _ =>
  (need (flt x 0)).bind fun _ =>
  (need (!(flt 13704453666088419328 x))).bind fun _ =>
  (fmul 4609176140021203710 x).bind fun m =>
  (fsub m 4602678819172646912).bind fun a =>
  (floatToIntVal .f64 a .i64).bind fun k =>
  (some (floatOfInt .f64 k)).bind fun kf =>
  (fmul kf 4604418534311723008).bind fun h1 =>
  (fsub x h1).bind fun hi =>
  (fmul kf 4461442080421002358).bind fun lo =>
  (zDV hi lo k).bind fun z =>
  some z
set_option maxRecDepth 100000 in
set_option maxHeartbeats 400000 in
theorem zQp (x:Nat) (out:Nat) (w:World) (h:zHd x=some out):Calls Tryz.prog 83 #[.float .f64 x] w fun e w'=>e = .returned (.float .f64 out)∧w=w':=by
  unfold zHd at h
  simp only [Option.bind_eq_some_iff] at h
  obtain ⟨_u1,e1,_u2,e2,_u3,e3,_u4,e4,_u5,e5,m,e6,a,e7,k,e8,kf,e9,h1,e10,hi,e11,lo,e12,z,e13,hout⟩:=h
  have ho0:=Option.some.inj hout
  have q1:=zAO e1
  have q2:(FloatKind.f64.format.order x 4649454530587146735 == some .gt)=false:=zAE e2
  have q3:(FloatKind.f64.format.order x 13873137513782915153 == some .lt)=false:=zAE e3
  have q4:(FloatKind.f64.format.order x 0 == some .lt)=true:=zAO e4
  have q5:(FloatKind.f64.format.order 13704453666088419328 x == some .lt)=false:=zAE e5
  have q6:=fun w:World=>run_float_arith (P:=Tryz.prog) w .mul 29 .f64 4609176140021203710 x m e6
  have q7:=fun w:World=>run_float_arith (P:=Tryz.prog) w .sub 29 .f64 m 4602678819172646912 a e7
  have q8:=fun w=>run_convert_float_int (P:=Tryz.prog) w 29 3 .f64 .i64 a k (by simp [Tryz.underlying29]) Tryz.underlying3 e8
  have q9:=Option.some.inj e9
  have q10:=fun w:World=>run_float_arith (P:=Tryz.prog) w .mul 29 .f64 kf 4604418534311723008 h1 e10
  have q11:=fun w:World=>run_float_arith (P:=Tryz.prog) w .sub 29 .f64 x h1 hi e11
  have q12:=fun w:World=>run_float_arith (P:=Tryz.prog) w .mul 29 .f64 kf 4461442080421002358 lo e12
  have q13:=fun w=>zGP hi lo k z w e13
  clear e1 e2 e3 e4 e5 e6 e7 e8 e9 e10 e11 e12 e13 hout
  subst ho0
  have HX:∀ w,Calls Tryz.prog 91 #[.float .f64 x] w fun e w'=>e = .returned (.float .f64 z)∧w=w':=by
    intro w
    go_enter Tryz.func91,Tryz.ntmps91
    go_wp2_with (first | (go_at_call 101; refine (q13 w).mono ?_; rintro e w' ⟨rfl,rfl⟩) | (go_at_call 67; refine (zAb x w q1).mono ?_; rintro e w' ⟨rfl,rfl⟩))
    go_ret
    exact ⟨rfl,rfl⟩
  go_enter Tryz.func83,Tryz.ntmps83
  go_wp2_with (go_at_call 91; refine (HX w).mono ?_; rintro e w' ⟨rfl,rfl⟩)
  go_ret
  exact ⟨rfl,rfl⟩
def zFS (x:Nat):Option Nat :=
  (need (zA7 x)).bind fun _ =>
  (need (!(fgt x 4649454530587146735))).bind fun _ =>
  (need (!(flt x 13873137513782915153))).bind fun _ =>
  (need (flt 13704453666088419328 x)).bind fun _ =>
  (need (flt x 4481081629233643520)).bind fun _ =>
  (fadd 4607182418800017408 x).bind fun r =>
  some r
set_option maxRecDepth 100000 in
set_option maxHeartbeats 400000 in
theorem zNK (x:Nat) (out:Nat) (w:World) (h:zFS x=some out):Calls Tryz.prog 83 #[.float .f64 x] w fun e w'=>e = .returned (.float .f64 out)∧w=w':=by
  unfold zFS at h
  simp only [Option.bind_eq_some_iff] at h
  obtain ⟨_u1,e1,_u2,e2,_u3,e3,_u4,e4,_u5,e5,r,e6,hout⟩:=h
  have ho0:=Option.some.inj hout
  have q1:=zAO e1
  have q2:(FloatKind.f64.format.order x 4649454530587146735 == some .gt)=false:=zAE e2
  have q3:(FloatKind.f64.format.order x 13873137513782915153 == some .lt)=false:=zAE e3
  have q4:(FloatKind.f64.format.order 13704453666088419328 x == some .lt)=true:=zAO e4
  have q5:(FloatKind.f64.format.order x 4481081629233643520 == some .lt)=true:=zAO e5
  have q6:=fun w:World=>run_float_arith (P:=Tryz.prog) w .add 29 .f64 4607182418800017408 x r e6
  clear e1 e2 e3 e4 e5 e6 hout
  subst ho0
  have HX:∀ w,Calls Tryz.prog 91 #[.float .f64 x] w fun e w'=>e = .returned (.float .f64 r)∧w=w':=by
    intro w
    go_enter Tryz.func91,Tryz.ntmps91
    go_wp2_with (first | (go_at_call 67; refine (zAb x w q1).mono ?_; rintro e w' ⟨rfl,rfl⟩))
    go_ret
    exact ⟨rfl,rfl⟩
  go_enter Tryz.func83,Tryz.ntmps83
  go_wp2_with (go_at_call 91; refine (HX w).mono ?_; rintro e w' ⟨rfl,rfl⟩)
  go_ret
  exact ⟨rfl,rfl⟩
def zGh (x:Nat):Option Nat :=
  (need (zA7 x)).bind fun _ =>
  (need (fgt x 4649454530587146735)).bind fun _ =>
  some 9218868437227405312
set_option maxRecDepth 100000 in
set_option maxHeartbeats 400000 in
theorem zNM (x:Nat) (out:Nat) (w:World) (h:zGh x=some out):Calls Tryz.prog 83 #[.float .f64 x] w fun e w'=>e = .returned (.float .f64 out)∧w=w':=by
  unfold zGh at h
  simp only [Option.bind_eq_some_iff] at h
  obtain ⟨_u1,e1,_u2,e2,hout⟩:=h
  have ho0:=Option.some.inj hout
  have q1:=zAO e1
  have q2:(FloatKind.f64.format.order x 4649454530587146735 == some .gt)=true:=zAO e2
  clear e1 e2 hout
  subst ho0
  have HX:∀ w,Calls Tryz.prog 91 #[.float .f64 x] w fun e w'=>e = .returned (.float .f64 9218868437227405312)∧w=w':=by
    intro w
    go_enter Tryz.func91,Tryz.ntmps91
    go_wp2_with (first | (go_at_call 67; refine (zAb x w q1).mono ?_; rintro e w' ⟨rfl,rfl⟩) | (go_at_call 75; refine (zSd w).mono ?_; rintro e w' ⟨rfl,rfl⟩))
    go_ret
    exact ⟨rfl,rfl⟩
  go_enter Tryz.func83,Tryz.ntmps83
  go_wp2_with (go_at_call 91; refine (HX w).mono ?_; rintro e w' ⟨rfl,rfl⟩)
  go_ret
  exact ⟨rfl,rfl⟩
def zFT (x:Nat):Option Nat :=
  (need (zA7 x)).bind fun _ =>
  (need (!(fgt x 4649454530587146735))).bind fun _ =>
  (need (flt x 13873137513782915153)).bind fun _ =>
  some 0
set_option maxRecDepth 100000 in
set_option maxHeartbeats 400000 in
theorem zJx (x:Nat) (out:Nat) (w:World) (h:zFT x=some out):Calls Tryz.prog 83 #[.float .f64 x] w fun e w'=>e = .returned (.float .f64 out)∧w=w':=by
  unfold zFT at h
  simp only [Option.bind_eq_some_iff] at h
  obtain ⟨_u1,e1,_u2,e2,_u3,e3,hout⟩:=h
  have ho0:=Option.some.inj hout
  have q1:=zAO e1
  have q2:(FloatKind.f64.format.order x 4649454530587146735 == some .gt)=false:=zAE e2
  have q3:(FloatKind.f64.format.order x 13873137513782915153 == some .lt)=true:=zAO e3
  clear e1 e2 e3 hout
  subst ho0
  have HX:∀ w,Calls Tryz.prog 91 #[.float .f64 x] w fun e w'=>e = .returned (.float .f64 0)∧w=w':=by
    intro w
    go_enter Tryz.func91,Tryz.ntmps91
    go_wp2_with (first | (go_at_call 67; refine (zAb x w q1).mono ?_; rintro e w' ⟨rfl,rfl⟩))
    go_ret
    exact ⟨rfl,rfl⟩
  go_enter Tryz.func83,Tryz.ntmps83
  go_wp2_with (go_at_call 91; refine (HX w).mono ?_; rintro e w' ⟨rfl,rfl⟩)
  go_ret
  exact ⟨rfl,rfl⟩
def zHe (x:Nat):Option Nat :=
  (need (zA7 x)).bind fun _ =>
  (need (fgt x 4652218415073722367)).bind fun _ =>
  some 9218868437227405312
set_option maxRecDepth 100000 in
set_option maxHeartbeats 400000 in
theorem zJy (x:Nat) (out:Nat) (w:World) (h:zHe x=some out):Calls Tryz.prog 87 #[.float .f64 x] w fun e w'=>e = .returned (.float .f64 out)∧w=w':=by
  unfold zHe at h
  simp only [Option.bind_eq_some_iff] at h
  obtain ⟨_u1,e1,_u2,e2,hout⟩:=h
  have ho0:=Option.some.inj hout
  have q1:=zAO e1
  have q2:(FloatKind.f64.format.order x 4652218415073722367 == some .gt)=true:=zAO e2
  clear e1 e2 hout
  subst ho0
  have HX:∀ w,Calls Tryz.prog 99 #[.float .f64 x] w fun e w'=>e = .returned (.float .f64 9218868437227405312)∧w=w':=by
    intro w
    go_enter Tryz.func99,Tryz.ntmps99
    go_wp2_with (first | (go_at_call 67; refine (zAb x w q1).mono ?_; rintro e w' ⟨rfl,rfl⟩) | (go_at_call 75; refine (zSd w).mono ?_; rintro e w' ⟨rfl,rfl⟩))
    go_ret
    exact ⟨rfl,rfl⟩
  go_enter Tryz.func87,Tryz.ntmps87
  go_wp2_with (go_at_call 99; refine (HX w).mono ?_; rintro e w' ⟨rfl,rfl⟩)
  go_ret
  exact ⟨rfl,rfl⟩
def zFz (x:Nat):Option Nat :=
  (need (zA7 x)).bind fun _ =>
  (need (!(fgt x 4652218415073722367))).bind fun _ =>
  (need (flt x 13875810354254053376)).bind fun _ =>
  some 0
set_option maxRecDepth 100000 in
set_option maxHeartbeats 400000 in
theorem zI1 (x:Nat) (out:Nat) (w:World) (h:zFz x=some out):Calls Tryz.prog 87 #[.float .f64 x] w fun e w'=>e = .returned (.float .f64 out)∧w=w':=by
  unfold zFz at h
  simp only [Option.bind_eq_some_iff] at h
  obtain ⟨_u1,e1,_u2,e2,_u3,e3,hout⟩:=h
  have ho0:=Option.some.inj hout
  have q1:=zAO e1
  have q2:(FloatKind.f64.format.order x 4652218415073722367 == some .gt)=false:=zAE e2
  have q3:(FloatKind.f64.format.order x 13875810354254053376 == some .lt)=true:=zAO e3
  clear e1 e2 e3 hout
  subst ho0
  have HX:∀ w,Calls Tryz.prog 99 #[.float .f64 x] w fun e w'=>e = .returned (.float .f64 0)∧w=w':=by
    intro w
    go_enter Tryz.func99,Tryz.ntmps99
    go_wp2_with (first | (go_at_call 67; refine (zAb x w q1).mono ?_; rintro e w' ⟨rfl,rfl⟩))
    go_ret
    exact ⟨rfl,rfl⟩
  go_enter Tryz.func87,Tryz.ntmps87
  go_wp2_with (go_at_call 99; refine (HX w).mono ?_; rintro e w' ⟨rfl,rfl⟩)
  go_ret
  exact ⟨rfl,rfl⟩
def zDF (x:Nat):Option Nat :=
  (need (zA7 x)).bind fun _ =>
  (need (!(fgt x 9218868437227405311))).bind fun _ =>
  (need (!(flt x 0))).bind fun _ =>
  (need (!(feq x 0))).bind fun _ =>
  (zEF x).bind fun ⟨f0,k0⟩ =>
  (need (flt f0 4604544271217802189)).bind fun _ =>
  (fmul f0 4611686018427387904).bind fun f1 =>
  (some (wrap64 (k0 - 1))).bind fun k1 =>
  (fsub f1 4607182418800017408).bind fun f =>
  (some (floatOfInt .f64 k1)).bind fun kf =>
  (fadd 4611686018427387904 f).bind fun d =>
  (fdiv f d).bind fun s =>
  (fmul s s).bind fun s2 =>
  (fmul s2 s2).bind fun s4 =>
  (fmul s4 4594499633228436036).bind fun a1 =>
  (fadd 4595719342595441630 a1).bind fun a2 =>
  (fmul s4 a2).bind fun a3 =>
  (fadd 4598818590951641945 a3).bind fun a4 =>
  (fmul s4 a4).bind fun a5 =>
  (fadd 4604180019048437139 a5).bind fun a6 =>
  (fmul s2 a6).bind fun t1 =>
  (fmul s4 4594685411790997151).bind fun b1 =>
  (fadd 4597174411056806063 b1).bind fun b2 =>
  (fmul s4 b2).bind fun b3 =>
  (fadd 4600877379321592324 b3).bind fun b4 =>
  (fmul s4 b4).bind fun t2 =>
  (fadd t1 t2).bind fun R =>
  (fmul 4602678819172646912 f).bind fun c1 =>
  (fmul c1 f).bind fun hf =>
  (fmul kf 4604418534311723008).bind fun g1 =>
  (fadd hf R).bind fun g2 =>
  (fmul s g2).bind fun g3 =>
  (fmul kf 4461442080421002358).bind fun g4 =>
  (fadd g3 g4).bind fun g5 =>
  (fsub hf g5).bind fun g6 =>
  (fsub g6 f).bind fun g7 =>
  (fsub g1 g7).bind fun r =>
  some r
set_option maxRecDepth 100000 in
set_option maxHeartbeats 1000000 in
theorem zQY (x:Nat) (out:Nat) (w:World) (h:zDF x=some out):Calls Tryz.prog 81 #[.float .f64 x] w fun e w'=>e = .returned (.float .f64 out)∧w=w':=by
  unfold zDF at h
  simp only [Option.bind_eq_some_iff,Prod.exists] at h
  obtain ⟨_u1,e1,_u2,e2,_u3,e3,_u4,e4,f0,k0,e5,_u6,e6,f1,e7,k1,e8,f,e9,kf,e10,d,e11,s,e12,s2,e13,s4,e14,a1,e15,a2,e16,a3,e17,a4,e18,a5,e19,a6,e20,t1,e21,b1,e22,b2,e23,b3,e24,b4,e25,t2,e26,R,e27,c1,e28,hf,e29,g1,e30,g2,e31,g3,e32,g4,e33,g5,e34,g6,e35,g7,e36,r,e37,hout⟩:=h
  have ho0:=Option.some.inj hout
  have q1:=zAO e1
  have q2:(FloatKind.f64.format.order x 9218868437227405311 == some .gt)=false:=zAE e2
  have q3:(FloatKind.f64.format.order x 0 == some .lt)=false:=zAE e3
  have q4:(FloatKind.f64.format.order x 0 == some .eq)=false:=zAE e4
  have q5:=fun w=>zEE x f0 k0 w e5
  have q6:(FloatKind.f64.format.order f0 4604544271217802189 == some .lt)=true:=zAO e6
  have q7:=fun w:World=>run_float_arith (P:=Tryz.prog) w .mul 29 .f64 f0 4611686018427387904 f1 e7
  have q8:=Option.some.inj e8
  have q9:=fun w:World=>run_float_arith (P:=Tryz.prog) w .sub 29 .f64 f1 4607182418800017408 f e9
  have q10:=Option.some.inj e10
  have q11:=fun w:World=>run_float_arith (P:=Tryz.prog) w .add 29 .f64 4611686018427387904 f d e11
  have q12:=fun w:World=>run_float_arith (P:=Tryz.prog) w .quo 29 .f64 f d s e12
  have q13:=fun w:World=>run_float_arith (P:=Tryz.prog) w .mul 29 .f64 s s s2 e13
  have q14:=fun w:World=>run_float_arith (P:=Tryz.prog) w .mul 29 .f64 s2 s2 s4 e14
  have q15:=fun w:World=>run_float_arith (P:=Tryz.prog) w .mul 29 .f64 s4 4594499633228436036 a1 e15
  have q16:=fun w:World=>run_float_arith (P:=Tryz.prog) w .add 29 .f64 4595719342595441630 a1 a2 e16
  have q17:=fun w:World=>run_float_arith (P:=Tryz.prog) w .mul 29 .f64 s4 a2 a3 e17
  have q18:=fun w:World=>run_float_arith (P:=Tryz.prog) w .add 29 .f64 4598818590951641945 a3 a4 e18
  have q19:=fun w:World=>run_float_arith (P:=Tryz.prog) w .mul 29 .f64 s4 a4 a5 e19
  have q20:=fun w:World=>run_float_arith (P:=Tryz.prog) w .add 29 .f64 4604180019048437139 a5 a6 e20
  have q21:=fun w:World=>run_float_arith (P:=Tryz.prog) w .mul 29 .f64 s2 a6 t1 e21
  have q22:=fun w:World=>run_float_arith (P:=Tryz.prog) w .mul 29 .f64 s4 4594685411790997151 b1 e22
  have q23:=fun w:World=>run_float_arith (P:=Tryz.prog) w .add 29 .f64 4597174411056806063 b1 b2 e23
  have q24:=fun w:World=>run_float_arith (P:=Tryz.prog) w .mul 29 .f64 s4 b2 b3 e24
  have q25:=fun w:World=>run_float_arith (P:=Tryz.prog) w .add 29 .f64 4600877379321592324 b3 b4 e25
  have q26:=fun w:World=>run_float_arith (P:=Tryz.prog) w .mul 29 .f64 s4 b4 t2 e26
  have q27:=fun w:World=>run_float_arith (P:=Tryz.prog) w .add 29 .f64 t1 t2 R e27
  have q28:=fun w:World=>run_float_arith (P:=Tryz.prog) w .mul 29 .f64 4602678819172646912 f c1 e28
  have q29:=fun w:World=>run_float_arith (P:=Tryz.prog) w .mul 29 .f64 c1 f hf e29
  have q30:=fun w:World=>run_float_arith (P:=Tryz.prog) w .mul 29 .f64 kf 4604418534311723008 g1 e30
  have q31:=fun w:World=>run_float_arith (P:=Tryz.prog) w .add 29 .f64 hf R g2 e31
  have q32:=fun w:World=>run_float_arith (P:=Tryz.prog) w .mul 29 .f64 s g2 g3 e32
  have q33:=fun w:World=>run_float_arith (P:=Tryz.prog) w .mul 29 .f64 kf 4461442080421002358 g4 e33
  have q34:=fun w:World=>run_float_arith (P:=Tryz.prog) w .add 29 .f64 g3 g4 g5 e34
  have q35:=fun w:World=>run_float_arith (P:=Tryz.prog) w .sub 29 .f64 hf g5 g6 e35
  have q36:=fun w:World=>run_float_arith (P:=Tryz.prog) w .sub 29 .f64 g6 f g7 e36
  have q37:=fun w:World=>run_float_arith (P:=Tryz.prog) w .sub 29 .f64 g1 g7 r e37
  clear e1 e2 e3 e4 e5 e6 e7 e8 e9 e10 e11 e12 e13 e14 e15 e16 e17 e18 e19 e20 e21 e22 e23 e24 e25 e26 e27 e28 e29 e30 e31 e32 e33 e34 e35 e36 e37 hout
  subst ho0
  have HX:∀ w,Calls Tryz.prog 89 #[.float .f64 x] w fun e w'=>e = .returned (.float .f64 r)∧w=w':=by
    intro w
    go_enter Tryz.func89,Tryz.ntmps89
    go_wp2_with (first | (go_at_call 97; refine (q5 w).mono ?_; rintro e w' ⟨rfl,rfl⟩) | (go_at_call 67; refine (zAb x w q1).mono ?_; rintro e w' ⟨rfl,rfl⟩) | (go_at_call 68; refine (zBh x w q2).mono ?_; rintro e w' ⟨rfl,rfl⟩))
    go_ret
    exact ⟨rfl,rfl⟩
  go_enter Tryz.func81,Tryz.ntmps81
  go_wp2_with (go_at_call 89; refine (HX w).mono ?_; rintro e w' ⟨rfl,rfl⟩)
  go_ret
  exact ⟨rfl,rfl⟩
def zDj (x:Nat):Option Nat :=
  (need (zA7 x)).bind fun _ =>
  (need (!(fgt x 9218868437227405311))).bind fun _ =>
  (need (!(flt x 0))).bind fun _ =>
  (need (!(feq x 0))).bind fun _ =>
  (zEF x).bind fun ⟨f0,k0⟩ =>
  (need (!(flt f0 4604544271217802189))).bind fun _ =>
  (fsub f0 4607182418800017408).bind fun f =>
  (some (floatOfInt .f64 k0)).bind fun kf =>
  (fadd 4611686018427387904 f).bind fun d =>
  (fdiv f d).bind fun s =>
  (fmul s s).bind fun s2 =>
  (fmul s2 s2).bind fun s4 =>
  (fmul s4 4594499633228436036).bind fun a1 =>
  (fadd 4595719342595441630 a1).bind fun a2 =>
  (fmul s4 a2).bind fun a3 =>
  (fadd 4598818590951641945 a3).bind fun a4 =>
  (fmul s4 a4).bind fun a5 =>
  (fadd 4604180019048437139 a5).bind fun a6 =>
  (fmul s2 a6).bind fun t1 =>
  (fmul s4 4594685411790997151).bind fun b1 =>
  (fadd 4597174411056806063 b1).bind fun b2 =>
  (fmul s4 b2).bind fun b3 =>
  (fadd 4600877379321592324 b3).bind fun b4 =>
  (fmul s4 b4).bind fun t2 =>
  (fadd t1 t2).bind fun R =>
  (fmul 4602678819172646912 f).bind fun c1 =>
  (fmul c1 f).bind fun hf =>
  (fmul kf 4604418534311723008).bind fun g1 =>
  (fadd hf R).bind fun g2 =>
  (fmul s g2).bind fun g3 =>
  (fmul kf 4461442080421002358).bind fun g4 =>
  (fadd g3 g4).bind fun g5 =>
  (fsub hf g5).bind fun g6 =>
  (fsub g6 f).bind fun g7 =>
  (fsub g1 g7).bind fun r =>
  some r
set_option maxRecDepth 100000 in
set_option maxHeartbeats 1000000 in
theorem zM0 (x:Nat) (out:Nat) (w:World) (h:zDj x=some out):Calls Tryz.prog 81 #[.float .f64 x] w fun e w'=>e = .returned (.float .f64 out)∧w=w':=by
  unfold zDj at h
  simp only [Option.bind_eq_some_iff,Prod.exists] at h
  obtain ⟨_u1,e1,_u2,e2,_u3,e3,_u4,e4,f0,k0,e5,_u6,e6,f,e7,kf,e8,d,e9,s,e10,s2,e11,s4,e12,a1,e13,a2,e14,a3,e15,a4,e16,a5,e17,a6,e18,t1,e19,b1,e20,b2,e21,b3,e22,b4,e23,t2,e24,R,e25,c1,e26,hf,e27,g1,e28,g2,e29,g3,e30,g4,e31,g5,e32,g6,e33,g7,e34,r,e35,hout⟩:=h
  have ho0:=Option.some.inj hout
  have q1:=zAO e1
  have q2:(FloatKind.f64.format.order x 9218868437227405311 == some .gt)=false:=zAE e2
  have q3:(FloatKind.f64.format.order x 0 == some .lt)=false:=zAE e3
  have q4:(FloatKind.f64.format.order x 0 == some .eq)=false:=zAE e4
  have q5:=fun w=>zEE x f0 k0 w e5
  have q6:(FloatKind.f64.format.order f0 4604544271217802189 == some .lt)=false:=zAE e6
  have q7:=fun w:World=>run_float_arith (P:=Tryz.prog) w .sub 29 .f64 f0 4607182418800017408 f e7
  have q8:=Option.some.inj e8
  have q9:=fun w:World=>run_float_arith (P:=Tryz.prog) w .add 29 .f64 4611686018427387904 f d e9
  have q10:=fun w:World=>run_float_arith (P:=Tryz.prog) w .quo 29 .f64 f d s e10
  have q11:=fun w:World=>run_float_arith (P:=Tryz.prog) w .mul 29 .f64 s s s2 e11
  have q12:=fun w:World=>run_float_arith (P:=Tryz.prog) w .mul 29 .f64 s2 s2 s4 e12
  have q13:=fun w:World=>run_float_arith (P:=Tryz.prog) w .mul 29 .f64 s4 4594499633228436036 a1 e13
  have q14:=fun w:World=>run_float_arith (P:=Tryz.prog) w .add 29 .f64 4595719342595441630 a1 a2 e14
  have q15:=fun w:World=>run_float_arith (P:=Tryz.prog) w .mul 29 .f64 s4 a2 a3 e15
  have q16:=fun w:World=>run_float_arith (P:=Tryz.prog) w .add 29 .f64 4598818590951641945 a3 a4 e16
  have q17:=fun w:World=>run_float_arith (P:=Tryz.prog) w .mul 29 .f64 s4 a4 a5 e17
  have q18:=fun w:World=>run_float_arith (P:=Tryz.prog) w .add 29 .f64 4604180019048437139 a5 a6 e18
  have q19:=fun w:World=>run_float_arith (P:=Tryz.prog) w .mul 29 .f64 s2 a6 t1 e19
  have q20:=fun w:World=>run_float_arith (P:=Tryz.prog) w .mul 29 .f64 s4 4594685411790997151 b1 e20
  have q21:=fun w:World=>run_float_arith (P:=Tryz.prog) w .add 29 .f64 4597174411056806063 b1 b2 e21
  have q22:=fun w:World=>run_float_arith (P:=Tryz.prog) w .mul 29 .f64 s4 b2 b3 e22
  have q23:=fun w:World=>run_float_arith (P:=Tryz.prog) w .add 29 .f64 4600877379321592324 b3 b4 e23
  have q24:=fun w:World=>run_float_arith (P:=Tryz.prog) w .mul 29 .f64 s4 b4 t2 e24
  have q25:=fun w:World=>run_float_arith (P:=Tryz.prog) w .add 29 .f64 t1 t2 R e25
  have q26:=fun w:World=>run_float_arith (P:=Tryz.prog) w .mul 29 .f64 4602678819172646912 f c1 e26
  have q27:=fun w:World=>run_float_arith (P:=Tryz.prog) w .mul 29 .f64 c1 f hf e27
  have q28:=fun w:World=>run_float_arith (P:=Tryz.prog) w .mul 29 .f64 kf 4604418534311723008 g1 e28
  have q29:=fun w:World=>run_float_arith (P:=Tryz.prog) w .add 29 .f64 hf R g2 e29
  have q30:=fun w:World=>run_float_arith (P:=Tryz.prog) w .mul 29 .f64 s g2 g3 e30
  have q31:=fun w:World=>run_float_arith (P:=Tryz.prog) w .mul 29 .f64 kf 4461442080421002358 g4 e31
  have q32:=fun w:World=>run_float_arith (P:=Tryz.prog) w .add 29 .f64 g3 g4 g5 e32
  have q33:=fun w:World=>run_float_arith (P:=Tryz.prog) w .sub 29 .f64 hf g5 g6 e33
  have q34:=fun w:World=>run_float_arith (P:=Tryz.prog) w .sub 29 .f64 g6 f g7 e34
  have q35:=fun w:World=>run_float_arith (P:=Tryz.prog) w .sub 29 .f64 g1 g7 r e35
  clear e1 e2 e3 e4 e5 e6 e7 e8 e9 e10 e11 e12 e13 e14 e15 e16 e17 e18 e19 e20 e21 e22 e23 e24 e25 e26 e27 e28 e29 e30 e31 e32 e33 e34 e35 hout
  subst ho0
  have HX:∀ w,Calls Tryz.prog 89 #[.float .f64 x] w fun e w'=>e = .returned (.float .f64 r)∧w=w':=by
    intro w
    go_enter Tryz.func89,Tryz.ntmps89
    go_wp2_with (first | (go_at_call 97; refine (q5 w).mono ?_; rintro e w' ⟨rfl,rfl⟩) | (go_at_call 67; refine (zAb x w q1).mono ?_; rintro e w' ⟨rfl,rfl⟩) | (go_at_call 68; refine (zBh x w q2).mono ?_; rintro e w' ⟨rfl,rfl⟩))
    go_ret
    exact ⟨rfl,rfl⟩
  go_enter Tryz.func81,Tryz.ntmps81
  go_wp2_with (go_at_call 89; refine (HX w).mono ?_; rintro e w' ⟨rfl,rfl⟩)
  go_ret
  exact ⟨rfl,rfl⟩
end Go.Proofs.YtllaekopaglolaaGreat
end
