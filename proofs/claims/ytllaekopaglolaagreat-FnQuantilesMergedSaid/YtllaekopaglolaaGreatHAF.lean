/-
  Floor; the mappings' approximate logs. (Printed by gen_idx.py.)
-/
import Derived.Test.YtllaekopaglolaaGreatHAE
section
namespace Go.Proofs.YtllaekopaglolaaGreat
open Go.RowKit
def zEH (x:Nat):Option Nat :=
  (need (!(feq x 0))).bind fun _ =>
  (need (zA7 x)).bind fun _ =>
  (need (zED x)).bind fun _ =>
  (need (!(flt x 0))).bind fun _ =>
  (zIk x).bind fun ⟨d,_fr⟩ =>
  some d
set_option maxRecDepth 100000 in
set_option maxHeartbeats 400000 in
theorem zJu (x:Nat) (out:Nat) (w:World) (h:zEH x=some out):Calls Tryz.prog 151 #[.float .f64 x] w fun e w'=>e = .returned (.float .f64 out)∧w=w':=by
  unfold zEH at h
  simp only [Option.bind_eq_some_iff,Prod.exists] at h
  obtain ⟨_u1,e1,_u2,e2,_u3,e3,_u4,e4,d,_fr,e5,hout⟩:=h
  have ho0:=Option.some.inj hout
  have q1:(FloatKind.f64.format.order x 0 == some .eq)=false:=zAE e1
  have q2:=zAO e2
  have q3:=zAO e3
  have q4:(FloatKind.f64.format.order x 0 == some .lt)=false:=zAE e4
  have q5:=fun w=>zFK x d _fr w e5
  clear e1 e2 e3 e4 e5 hout
  subst ho0
  have HX:∀ w,Calls Tryz.prog 153 #[.float .f64 x] w fun e w'=>e = .returned (.float .f64 d)∧w=w':=by
    intro w
    go_enter Tryz.func153,Tryz.ntmps153
    go_wp2_with (first | (go_at_call 96; refine (q5 w).mono ?_; rintro e w' ⟨rfl,rfl⟩) | (go_at_call 67; refine (zAb x w q2).mono ?_; rintro e w' ⟨rfl,rfl⟩) | (go_at_call 68; refine (zBt x w q3).mono ?_; rintro e w' ⟨rfl,rfl⟩))
    go_ret
    exact ⟨rfl,rfl⟩
  go_enter Tryz.func151,Tryz.ntmps151
  go_wp2_with (go_at_call 153; refine (HX w).mono ?_; rintro e w' ⟨rfl,rfl⟩)
  go_ret
  exact ⟨rfl,rfl⟩
def zDT (x:Nat):Option Nat :=
  (need (!(feq x 0))).bind fun _ =>
  (need (zA7 x)).bind fun _ =>
  (need (zED x)).bind fun _ =>
  (need (flt x 0)).bind fun _ =>
  (zIk (negF x)).bind fun ⟨d,fr⟩ =>
  (need (!(feq fr 0))).bind fun _ =>
  (fadd d 4607182418800017408).bind fun d1 =>
  some (negF d1)
set_option maxRecDepth 100000 in
set_option maxHeartbeats 400000 in
theorem zIz (x:Nat) (out:Nat) (w:World) (h:zDT x=some out):Calls Tryz.prog 151 #[.float .f64 x] w fun e w'=>e = .returned (.float .f64 out)∧w=w':=by
  unfold zDT at h
  simp only [Option.bind_eq_some_iff,Prod.exists] at h
  obtain ⟨_u1,e1,_u2,e2,_u3,e3,_u4,e4,d,fr,e5,_u6,e6,d1,e8,hout⟩:=h
  have ho0:=Option.some.inj hout
  have q1:(FloatKind.f64.format.order x 0 == some .eq)=false:=zAE e1
  have q2:=zAO e2
  have q3:=zAO e3
  have q4:(FloatKind.f64.format.order x 0 == some .lt)=true:=zAO e4
  have q5:=fun w=>zFK (negF x) d fr w e5
  have q6:(FloatKind.f64.format.order fr 0 == some .eq)=false:=zAE e6
  have hne:(FloatKind.f64.format.order fr 0 != some .eq)=true:=by simpa [bne] using q6
  have q8:=fun w:World=>run_float_arith (P:=Tryz.prog) w .add 29 .f64 d 4607182418800017408 d1 e8
  clear e1 e2 e3 e4 e5 e6 e8 hout
  subst ho0
  have HX:∀ w,Calls Tryz.prog 153 #[.float .f64 x] w fun e w'=>e = .returned (.float .f64 (negF d1))∧w=w':=by
    intro w
    go_enter Tryz.func153,Tryz.ntmps153
    go_wp2_with (first | (go_at_call 96; refine (q5 w).mono ?_; rintro e w' ⟨rfl,rfl⟩) | (go_at_call 67; refine (zAb x w q2).mono ?_; rintro e w' ⟨rfl,rfl⟩) | (go_at_call 68; refine (zBt x w q3).mono ?_; rintro e w' ⟨rfl,rfl⟩))
    go_ret
    exact ⟨rfl,rfl⟩
  go_enter Tryz.func151,Tryz.ntmps151
  go_wp2_with (go_at_call 153; refine (HX w).mono ?_; rintro e w' ⟨rfl,rfl⟩)
  go_ret
  exact ⟨rfl,rfl⟩
def zCy (x:Nat):Option Nat :=
  (need (!(feq x 0))).bind fun _ =>
  (need (zA7 x)).bind fun _ =>
  (need (zED x)).bind fun _ =>
  (need (flt x 0)).bind fun _ =>
  (zIk (negF x)).bind fun ⟨d,fr⟩ =>
  (need (feq fr 0)).bind fun _ =>
  some (negF d)
set_option maxRecDepth 100000 in
set_option maxHeartbeats 400000 in
theorem zHu (x:Nat) (out:Nat) (w:World) (h:zCy x=some out):Calls Tryz.prog 151 #[.float .f64 x] w fun e w'=>e = .returned (.float .f64 out)∧w=w':=by
  unfold zCy at h
  simp only [Option.bind_eq_some_iff,Prod.exists] at h
  obtain ⟨_u1,e1,_u2,e2,_u3,e3,_u4,e4,d,fr,e5,_u6,e6,hout⟩:=h
  have ho0:=Option.some.inj hout
  have q1:(FloatKind.f64.format.order x 0 == some .eq)=false:=zAE e1
  have q2:=zAO e2
  have q3:=zAO e3
  have q4:(FloatKind.f64.format.order x 0 == some .lt)=true:=zAO e4
  have q5:=fun w=>zFK (negF x) d fr w e5
  have q6:(FloatKind.f64.format.order fr 0 == some .eq)=true:=zAO e6
  have hne:(FloatKind.f64.format.order fr 0 != some .eq)=false:=by simpa [bne] using q6
  clear e1 e2 e3 e4 e5 e6 hout
  subst ho0
  have HX:∀ w,Calls Tryz.prog 153 #[.float .f64 x] w fun e w'=>e = .returned (.float .f64 (negF d))∧w=w':=by
    intro w
    go_enter Tryz.func153,Tryz.ntmps153
    go_wp2_with (first | (go_at_call 96; refine (q5 w).mono ?_; rintro e w' ⟨rfl,rfl⟩) | (go_at_call 67; refine (zAb x w q2).mono ?_; rintro e w' ⟨rfl,rfl⟩) | (go_at_call 68; refine (zBt x w q3).mono ?_; rintro e w' ⟨rfl,rfl⟩))
    go_ret
    exact ⟨rfl,rfl⟩
  go_enter Tryz.func151,Tryz.ntmps151
  go_wp2_with (go_at_call 153; refine (HX w).mono ?_; rintro e w' ⟨rfl,rfl⟩)
  go_ret
  exact ⟨rfl,rfl⟩
def zDS (x:Nat):Option Nat :=
  (need (feq x 0)).bind fun _ =>
  some x
set_option maxRecDepth 100000 in
set_option maxHeartbeats 400000 in
theorem zIx (x:Nat) (out:Nat) (w:World) (h:zDS x=some out):Calls Tryz.prog 151 #[.float .f64 x] w fun e w'=>e = .returned (.float .f64 out)∧w=w':=by
  unfold zDS at h
  simp only [Option.bind_eq_some_iff] at h
  obtain ⟨_u1,e1,hout⟩:=h
  have ho0:=Option.some.inj hout
  have q1:(FloatKind.f64.format.order x 0 == some .eq)=true:=zAO e1
  clear e1 hout
  subst ho0
  have HX:∀ w,Calls Tryz.prog 153 #[.float .f64 x] w fun e w'=>e = .returned (.float .f64 x)∧w=w':=by
    intro w
    go_enter Tryz.func153,Tryz.ntmps153
    go_wp2_with fail
    go_ret
    exact ⟨rfl,rfl⟩
  go_enter Tryz.func151,Tryz.ntmps151
  go_wp2_with (go_at_call 153; refine (HX w).mono ?_; rintro e w' ⟨rfl,rfl⟩)
  go_ret
  exact ⟨rfl,rfl⟩
def zIK (x:Nat):Option Nat:=(zEH x).or ((zDT x).or ((zCy x).or (zDS x)))
theorem zJs (x:Nat) (out:Nat) (w:World) (h:zIK x=some out):Calls Tryz.prog 151 #[.float .f64 x] w fun e w'=>e = .returned (.float .f64 out)∧w=w':=by
  unfold zIK at h
  rcases Option.or_eq_some_iff.1 h with h | ⟨_,h⟩
  · exact zJu x out w h
  rcases Option.or_eq_some_iff.1 h with h | ⟨_,h⟩
  · exact zIz x out w h
  rcases Option.or_eq_some_iff.1 h with h | ⟨_,h⟩
  · exact zHu x out w h
  exact zIx x out w h
def zEq (x:Nat):Option Nat :=
  (fadd (zHb (x:Int)) (zD5 (x:Int))).bind fun a =>
  (fsub a 4607182418800017408).bind fun r =>
  some r
set_option maxRecDepth 100000 in
set_option maxHeartbeats 400000 in
theorem zIF (x:Nat) (out:Nat) (p:Value) (w:World) (h:zEq x=some out):Calls Tryz.prog 147 #[p,.float .f64 x] w fun e w'=>e = .returned (.float .f64 out)∧w=w':=by
  unfold zEq at h
  simp only [Option.bind_eq_some_iff] at h
  obtain ⟨a,e1,r,e2,hout⟩:=h
  have ho0:=Option.some.inj hout
  have q1:=fun w:World=>run_float_arith (P:=Tryz.prog) w .add 29 .f64 (zHb (x:Int)) (zD5 (x:Int)) a e1
  have q2:=fun w:World=>run_float_arith (P:=Tryz.prog) w .sub 29 .f64 a 4607182418800017408 r e2
  clear e1 e2 hout
  subst ho0
  go_enter Tryz.func147,Tryz.ntmps147
  go_wp2_with (first | (go_at_call 88; refine (zAv x w).mono ?_; rintro e w' ⟨rfl,rfl⟩) | (go_at_call 149; refine (zOY _ w).mono ?_; rintro e w' ⟨rfl,rfl⟩) | (go_at_call 150; refine (zJP _ w).mono ?_; rintro e w' ⟨rfl,rfl⟩))
  go_ret
  exact ⟨rfl,rfl⟩
def zEr (x:Nat):Option Nat :=
  (fsub (zD5 (x:Int)) 4607182418800017408).bind fun s =>
  (fmul 4595344385493786390 s).bind fun a1 =>
  (fadd a1 13826951575952896819).bind fun a2 =>
  (fmul a2 s).bind fun a3 =>
  (fadd a3 4609112532926033335).bind fun a4 =>
  (fmul a4 s).bind fun a5 =>
  (fadd a5 (zHb (x:Int))).bind fun r =>
  some r
set_option maxRecDepth 100000 in
set_option maxHeartbeats 400000 in
theorem zIG (x:Nat) (out:Nat) (p:Value) (w:World) (h:zEr x=some out):Calls Tryz.prog 162 #[p,.float .f64 x] w fun e w'=>e = .returned (.float .f64 out)∧w=w':=by
  unfold zEr at h
  simp only [Option.bind_eq_some_iff] at h
  obtain ⟨s,e1,a1,e2,a2,e3,a3,e4,a4,e5,a5,e6,r,e7,hout⟩:=h
  have ho0:=Option.some.inj hout
  have q1:=fun w:World=>run_float_arith (P:=Tryz.prog) w .sub 29 .f64 (zD5 (x:Int)) 4607182418800017408 s e1
  have q2:=fun w:World=>run_float_arith (P:=Tryz.prog) w .mul 29 .f64 4595344385493786390 s a1 e2
  have q3:=fun w:World=>run_float_arith (P:=Tryz.prog) w .add 29 .f64 a1 13826951575952896819 a2 e3
  have q4:=fun w:World=>run_float_arith (P:=Tryz.prog) w .mul 29 .f64 a2 s a3 e4
  have q5:=fun w:World=>run_float_arith (P:=Tryz.prog) w .add 29 .f64 a3 4609112532926033335 a4 e5
  have q6:=fun w:World=>run_float_arith (P:=Tryz.prog) w .mul 29 .f64 a4 s a5 e6
  have q7:=fun w:World=>run_float_arith (P:=Tryz.prog) w .add 29 .f64 a5 (zHb (x:Int)) r e7
  clear e1 e2 e3 e4 e5 e6 e7 hout
  subst ho0
  go_enter Tryz.func162,Tryz.ntmps162
  go_wp2_with (first | (go_at_call 88; refine (zAv x w).mono ?_; rintro e w' ⟨rfl,rfl⟩) | (go_at_call 149; refine (zOY _ w).mono ?_; rintro e w' ⟨rfl,rfl⟩) | (go_at_call 150; refine (zJP _ w).mono ?_; rintro e w' ⟨rfl,rfl⟩))
  go_ret
  exact ⟨rfl,rfl⟩
def zHN (x:Nat):Option Nat :=
  (zIK x).bind fun e =>
  (fsub x e).bind fun d =>
  (fadd d 4607182418800017408).bind fun s =>
  (floatToIntVal .f64 e .i64).bind fun k =>
  some (zIS k s)
set_option maxRecDepth 100000 in
set_option maxHeartbeats 400000 in
theorem zQd (x:Nat) (out:Nat) (p:Value) (w:World) (h:zHN x=some out):Calls Tryz.prog 148 #[p,.float .f64 x] w fun e w'=>e = .returned (.float .f64 out)∧w=w':=by
  unfold zHN at h
  simp only [Option.bind_eq_some_iff] at h
  obtain ⟨e,e1,d,e2,s,e3,k,e4,hout⟩:=h
  have ho0:=Option.some.inj hout
  have q1:=fun w=>zJs x e w e1
  have q2:=fun w:World=>run_float_arith (P:=Tryz.prog) w .sub 29 .f64 x e d e2
  have q3:=fun w:World=>run_float_arith (P:=Tryz.prog) w .add 29 .f64 d 4607182418800017408 s e3
  have q4:=fun w=>run_convert_float_int (P:=Tryz.prog) w 29 3 .f64 .i64 e k (by simp [Tryz.underlying29]) Tryz.underlying3 e4
  clear e1 e2 e3 e4 hout
  subst ho0
  go_enter Tryz.func148,Tryz.ntmps148
  go_wp2_with (first | (go_at_call 151; refine (q1 w).mono ?_; rintro e w' ⟨rfl,rfl⟩) | (go_at_call 152; refine (zKD k s w).mono ?_; rintro e w' ⟨rfl,rfl⟩))
  go_ret
  exact ⟨rfl,rfl⟩
end Go.Proofs.YtllaekopaglolaaGreat
end
/-
  Cbrt of a number below nought. (Printed by gen_idx4.py.)
-/
section
namespace Go.Proofs.YtllaekopaglolaaGreat
open Go.RowKit
def zFe (x:Nat):Option Nat :=
  (need (!(feq x 0))).bind fun _ =>
  (need (zA7 x)).bind fun _ =>
  (need (zED x)).bind fun _ =>
  (need (flt x 0)).bind fun _ =>
  (some (negF x)).bind fun y =>
  (need (!(flt y 4503599627370496))).bind fun _ =>
  (some (IntKind.u64.wrap ((y:Int) / 3))).bind fun a0 =>
  (some (IntKind.u64.wrap (a0+3071306043645493248))).bind fun a1 =>
  (some (a1.toNat)).bind fun t0 =>
  (fmul t0 t0).bind fun tt =>
  (fdiv tt y).bind fun r =>
  (fmul r t0).bind fun rt =>
  (fadd 4603064841997850097 rt).bind fun s =>
  (fadd s 4609048195788499471).bind fun s1 =>
  (fdiv 13827900089180538932 s).bind fun ds =>
  (fadd s1 ds).bind fun s2 =>
  (fdiv 4609916747145206638 s2).bind fun fs =>
  (fadd 4600105333671292343 fs).bind fun g =>
  (fmul t0 g).bind fun t1 =>
  (some (bits .and .u64 (t1:Int) 18446744072635809792)).bind fun c0 =>
  (some (IntKind.u64.wrap (c0+1073741824))).bind fun c1 =>
  (some (c1.toNat)).bind fun t2 =>
  (fmul t2 t2).bind fun s3 =>
  (fdiv y s3).bind fun r2 =>
  (fadd t2 t2).bind fun w0 =>
  (fsub r2 t2).bind fun n =>
  (fadd w0 r2).bind fun m =>
  (fdiv n m).bind fun qq =>
  (fmul t2 qq).bind fun tq =>
  (fadd t2 tq).bind fun t3 =>
  some (negF t3)
set_option maxRecDepth 100000 in
set_option maxHeartbeats 2000000 in
theorem zNV (x:Nat) (out:Nat) (w:World) (h:zFe x=some out):Calls Tryz.prog 164 #[.float .f64 x] w fun e w'=>e = .returned (.float .f64 out)∧w=w':=by
  unfold zFe at h
  simp only [Option.bind_eq_some_iff] at h
  obtain ⟨_u1,e1,_u2,e2,_u3,e3,_u4,e4,y,e5,_u6,e6,a0,e7,a1,e8,t0,e9,tt,e10,r,e11,rt,e12,s,e13,s1,e14,ds,e15,s2,e16,fs,e17,g,e18,t1,e19,c0,e20,c1,e21,t2,e22,s3,e23,r2,e24,w0,e25,n,e26,m,e27,qq,e28,tq,e29,t3,e30,hout⟩:=h
  have ho0:=Option.some.inj hout
  have q1:(FloatKind.f64.format.order x 0 == some .eq)=false:=zAE e1
  have q2:=zAO e2
  have q3:=zAO e3
  have q4:(FloatKind.f64.format.order x 0 == some .lt)=true:=zAO e4
  have q5:=Option.some.inj e5
  have q6:(FloatKind.f64.format.order y 4503599627370496 == some .lt)=false:=zAE e6
  have q7:=Option.some.inj e7
  have q8:=Option.some.inj e8
  have q9:=Option.some.inj e9
  have q10:=fun w:World=>run_float_arith (P:=Tryz.prog) w .mul 29 .f64 t0 t0 tt e10
  have q11:=fun w:World=>run_float_arith (P:=Tryz.prog) w .quo 29 .f64 tt y r e11
  have q12:=fun w:World=>run_float_arith (P:=Tryz.prog) w .mul 29 .f64 r t0 rt e12
  have q13:=fun w:World=>run_float_arith (P:=Tryz.prog) w .add 29 .f64 4603064841997850097 rt s e13
  have q14:=fun w:World=>run_float_arith (P:=Tryz.prog) w .add 29 .f64 s 4609048195788499471 s1 e14
  have q15:=fun w:World=>run_float_arith (P:=Tryz.prog) w .quo 29 .f64 13827900089180538932 s ds e15
  have q16:=fun w:World=>run_float_arith (P:=Tryz.prog) w .add 29 .f64 s1 ds s2 e16
  have q17:=fun w:World=>run_float_arith (P:=Tryz.prog) w .quo 29 .f64 4609916747145206638 s2 fs e17
  have q18:=fun w:World=>run_float_arith (P:=Tryz.prog) w .add 29 .f64 4600105333671292343 fs g e18
  have q19:=fun w:World=>run_float_arith (P:=Tryz.prog) w .mul 29 .f64 t0 g t1 e19
  have q20:=Option.some.inj e20
  have q21:=Option.some.inj e21
  have q22:=Option.some.inj e22
  have q23:=fun w:World=>run_float_arith (P:=Tryz.prog) w .mul 29 .f64 t2 t2 s3 e23
  have q24:=fun w:World=>run_float_arith (P:=Tryz.prog) w .quo 29 .f64 y s3 r2 e24
  have q25:=fun w:World=>run_float_arith (P:=Tryz.prog) w .add 29 .f64 t2 t2 w0 e25
  have q26:=fun w:World=>run_float_arith (P:=Tryz.prog) w .sub 29 .f64 r2 t2 n e26
  have q27:=fun w:World=>run_float_arith (P:=Tryz.prog) w .add 29 .f64 w0 r2 m e27
  have q28:=fun w:World=>run_float_arith (P:=Tryz.prog) w .quo 29 .f64 n m qq e28
  have q29:=fun w:World=>run_float_arith (P:=Tryz.prog) w .mul 29 .f64 t2 qq tq e29
  have q30:=fun w:World=>run_float_arith (P:=Tryz.prog) w .add 29 .f64 t2 tq t3 e30
  clear e1 e2 e3 e4 e5 e6 e7 e8 e9 e10 e11 e12 e13 e14 e15 e16 e17 e18 e19 e20 e21 e22 e23 e24 e25 e26 e27 e28 e29 e30 hout
  subst ho0
  have HX:∀ w,Calls Tryz.prog 165 #[.float .f64 x] w fun e w'=>e = .returned (.float .f64 (negF t3))∧w=w':=by
    intro w
    go_enter Tryz.func165,Tryz.ntmps165
    go_wp2_with (first | (go_at_call 67; refine (zAb x w q2).mono ?_; rintro e w' ⟨rfl,rfl⟩) | (go_at_call 68; refine (zBt x w q3).mono ?_; rintro e w' ⟨rfl,rfl⟩) | (go_at_call 88; refine (zAv _ w).mono ?_; rintro e w' ⟨rfl,rfl⟩) | (go_at_call 66; refine (zAZ _ w).mono ?_; rintro e w' ⟨rfl,rfl⟩))
    go_ret
    exact ⟨rfl,rfl⟩
  go_enter Tryz.func164,Tryz.ntmps164
  go_wp2_with (go_at_call 165; refine (HX w).mono ?_; rintro e w' ⟨rfl,rfl⟩)
  go_ret
  exact ⟨rfl,rfl⟩
end Go.Proofs.YtllaekopaglolaaGreat
end
/-
  Sqrt,bit by bit: of a number above nought that has all its digits.
-/
section
namespace Go.Proofs.YtllaekopaglolaaGreat
open Go.RowKit
def sqGo:Nat→Nat→Nat→Nat→Nat × Nat
  | 0,ix,q,_=>(ix,q)
  | n+1,ix,q,s =>
    if (s+2^n) % 18446744073709551616≤ix then sqGo n ((ix - (s+2^n) % 18446744073709551616)*2 % 18446744073709551616) ((q+2^n) % 18446744073709551616) (((s+2^n) % 18446744073709551616+2^n) % 18446744073709551616)
    else sqGo n (ix*2 % 18446744073709551616) q s
def sqR (n:Nat):Nat:=if n=0 then 0 else 2^(n - 1)
def zXN (i0 q0:Nat) (w wr:World) (v3 v5 v6 v7 _v8:Value):Prop :=
  w=wr∧∃ n ix q s:Nat,n≤54∧ix<18446744073709551616∧q<18446744073709551616∧v3 = .int .u64 (ix:Int)∧v5 = .int .u64 (q:Int)∧v6 = .int .u64 (s:Int)∧v7 = .int .u64 ((sqR n:Nat):Int)∧sqGo n ix q s=(i0,q0)
def zO2 (x:Nat):Option Nat :=
  (need (!(feq x 0))).bind fun _ =>
  (need (zA7 x)).bind fun _ =>
  (need (!(fgt x 9218868437227405311))).bind fun _ =>
  (need (!(flt x 0))).bind fun _ =>
  (some (wrap64 (bits .and .u64 ((x:Int) / 4503599627370496) 2047))).bind fun e0 =>
  (need (!(decide (e0=0)))).bind fun _ =>
  (some (wrap64 (e0 - 1023))).bind fun e1 =>
  (some (bits .or .u64 (bits .andNot .u64 (x:Int) 9218868437227405312) 4503599627370496).toNat).bind fun ix2 =>
  (need (decide (bits .or .u64 (bits .andNot .u64 (x:Int) 9218868437227405312) 4503599627370496=(ix2:Int)))).bind fun _ =>
  (some (if decide (bits .and .i64 e1 1=1)=true then ix2*2 % 18446744073709551616 else ix2)).bind fun ix3 =>
  (some (sqGo 54 (ix3*2 % 18446744073709551616) 0 0)).bind fun p =>
  (some (if p.1=0 then p.2 else (p.2+p.2 % 2) % 18446744073709551616)).bind fun q =>
  some (IntKind.u64.wrap ((q:Int) / 2+IntKind.u64.wrap (IntKind.u64.wrap (wrap64 (wrap64 (e1 / 2 - 1)+1023))*4503599627370496))).toNat
set_option maxRecDepth 100000 in
set_option maxHeartbeats 4000000 in
theorem zTs (x:Nat) (out:Nat) (w:World) (h:zO2 x=some out):Calls Tryz.prog 95 #[.float .f64 x] w fun e w'=>e = .returned (.float .f64 out)∧w=w':=by
  unfold zO2 at h
  simp only [Option.bind_eq_some_iff] at h
  obtain ⟨_u1,n1,_u2,n2,_u3,n3,_u4,n4,e0,a1,_u5,n5,e1,a2,ix2,a3,_u6,n6,ix3,a4,p,a5,q,a6,hout⟩:=h
  have q1:(FloatKind.f64.format.order x 0 == some .eq)=false:=zAE n1
  have q2:=zAO n2
  have q3:=zAE n3
  have q4:(FloatKind.f64.format.order x 0 == some .lt)=false:=zAE n4
  have q5:(e0 == 0)=false:=by simpa using zAE n5
  have q6:=Option.some.inj a1
  have q7:=Option.some.inj a2
  have q8:bits .or .u64 (bits .andNot .u64 (x:Int) 9218868437227405312) 4503599627370496=(ix2:Int):=by simpa using zAO n6
  have q9:=Option.some.inj a4
  have q10:=Option.some.inj a5
  have q11:=Option.some.inj a6
  have ho:=Option.some.inj hout
  clear n1 n2 n3 n4 n5 n6 a1 a2 a3 a4 a5 a6 hout
  obtain ⟨i0,q0⟩:=p
  have HL:=Lib.hid q10
  obtain ⟨fin,hfin⟩:∃ fin:Int,IntKind.u64.wrap ((q:Int) / 2+IntKind.u64.wrap (IntKind.u64.wrap (wrap64 (wrap64 (e1 / 2 - 1)+1023))*4503599627370496))=fin:=⟨_,rfl⟩
  rw [hfin] at ho
  have HO:=Lib.hid ho
  have HF:=Lib.hid hfin
  have H9:=Lib.hid q9
  have H11:=Lib.hid q11
  have hs0:sqR 54=9007199254740992:=by decide
  clear q9 q10 q11 ho hfin
  have HX:∀ w,Calls Tryz.prog 102 #[.float .f64 x] w fun e w'=>e = .returned (.float .f64 out)∧w=w':=by
    intro w
    cases hod:(bits .and .i64 e1 1 == 1)
    · have hi3:ix2=ix3:=by simpa [show ¬ bits .and .i64 e1 1=1 from by simpa using hod] using H9.out
      rw [← hi3] at HL
      clear hi3
      have f0:IntKind.u64.wrap ((ix2:Int)*2)=((ix2*2 % 18446744073709551616:Nat):Int):=by rw [← zAY,Int.natCast_mul]; rfl
      obtain ⟨I0,hI0⟩:∃ I0,I0=ix2*2 % 18446744073709551616:=⟨_,rfl⟩
      have hI0l:I0<18446744073709551616:=by rw [hI0]; exact Nat.mod_lt _ (by decide)
      rw [← hI0] at f0 HL
      clear hI0
      go_enter Tryz.func102,Tryz.ntmps102
      go_wp2_with (first | (go_at_call 67; refine (zAb x w q2).mono ?_; rintro e w' ⟨rfl,rfl⟩) | (go_at_call 68; refine (zBh x w q3).mono ?_; rintro e w' ⟨rfl,rfl⟩) | (go_at_call 88; refine (zAv _ w).mono ?_; rintro e w' ⟨rfl,rfl⟩) | (go_at_call 66; refine (zAZ _ w).mono ?_; rintro e w' ⟨rfl,rfl⟩))
      go_loopw [3,5,6,7,8] (fun v3 v5 v6 v7 v8 wr=>zXN i0 q0 w wr v3 v5 v6 v7 v8) (fun _ _ _ r _ _=>(intOf r).toNat)
      case atStart=>exact ⟨rfl,54,I0,0,0,by omega,hI0l,by decide,rfl,rfl,rfl,by rw [hs0]; rfl,HL.out⟩
      case round =>
        obtain ⟨rfl,n,ix,q',s,hn,hix,hq'l,rfl,rfl,rfl,rfl,hgo⟩:=hrel
        cases n with
        | zero =>
          have e0':sqR 0=0:=rfl
          have hg:ix=i0∧q'=q0:=by simpa [sqGo] using hgo
          obtain ⟨rfl,rfl⟩:=hg
          rw [e0']
          have H11':=H11.out
          by_cases hz:ix=0
          · subst hz
            have hq:q'=q:=by simpa using H11'
            subst hq
            have HF':=HF.out
            have HO':=HO.out
            go_wp2_with (go_at_call 66; refine (zAZ _ w).mono ?_; rintro e w' ⟨rfl,rfl⟩)
            go_ret
            exact ⟨rfl,rfl⟩
          · have hz':((ix:Int) == 0)=false:=by simpa using hz
            have hz2:¬ (ix:Int)=0:=by simpa using hz
            have hq:(q'+q' % 2) % 18446744073709551616=q:=by simpa [hz] using H11'
            have hq1:IntKind.u64.wrap ((q':Int)+bits .and .u64 (q':Int) 1)=(q:Int):=by
              have hb:bits .and .u64 (q':Int) 1=((q' % 2:Nat):Int):=by
                rw [show (1:Int)=((1:Nat):Int) from rfl,u64_and_nat q' 1 (hq'l) (by decide),Nat.and_one_is_mod]
              rw [hb,← Int.natCast_add,zAY,hq]
            have HF':=HF.out
            have HO':=HO.out
            go_wp2_with (go_at_call 66; refine (zAZ _ w).mono ?_; rintro e w' ⟨rfl,rfl⟩)
            go_ret
            exact ⟨rfl,rfl⟩
        | succ k =>
          obtain ⟨R,hR⟩:∃ R,R=2^k:=⟨_,rfl⟩
          have hR0:0<R:=by rw [hR]; exact Nat.two_pow_pos k
          have eR:sqR (k+1)=R:=by unfold sqR; rw [if_neg (by omega),hR]; rfl
          have eR2:(R:Int) / 2=((sqR k:Nat):Int):=by
            unfold sqR
            cases k with
            | zero=>rw [hR]; rfl
            | succ j=>rw [hR,if_neg (by omega),Nat.pow_succ]; simp
          have hlt:sqR k<R:=by
            unfold sqR
            cases k with
            | zero=>rw [if_pos rfl]; exact hR0
            | succ j=>rw [hR,if_neg (by omega),Nat.pow_succ]; have:=Nat.two_pow_pos j; simp; omega
          rw [eR]
          have hRz:¬ (R:Int)=0:=by omega
          have hRz':((R:Int) == 0)=false:=by simpa using hRz
          unfold sqGo at hgo
          rw [← hR] at hgo
          obtain ⟨T,hT⟩:∃ T,T=(s+R) % 18446744073709551616:=⟨_,rfl⟩
          rw [← hT] at hgo
          have fT:IntKind.u64.wrap ((s:Int)+(R:Int))=(T:Int):=by rw [hT,← zAY,Int.natCast_add]
          by_cases hle:T≤ix
          · rw [if_pos hle] at hgo
            have c1:(T:Int)≤(ix:Int):=by omega
            have f1:IntKind.u64.wrap ((T:Int)+(R:Int))=(((T+R) % 18446744073709551616:Nat):Int):=by rw [← zAY,Int.natCast_add]
            have f2:IntKind.u64.wrap ((ix:Int) - (T:Int))=((ix - T:Nat):Int):=by rw [← Int.natCast_sub hle,zAY,Nat.mod_eq_of_lt (by omega)]
            have f3:IntKind.u64.wrap ((q':Int)+(R:Int))=(((q'+R) % 18446744073709551616:Nat):Int):=by rw [← zAY,Int.natCast_add]
            obtain ⟨T2,hT2⟩:∃ T2,T2=(T+R) % 18446744073709551616:=⟨_,rfl⟩
            obtain ⟨D,hD⟩:∃ D,D=ix - T:=⟨_,rfl⟩
            obtain ⟨Q,hQ⟩:∃ Q,Q=(q'+R) % 18446744073709551616:=⟨_,rfl⟩
            rw [← hT2] at f1 hgo
            rw [← hD] at f2 hgo
            rw [← hQ] at f3 hgo
            have hQl:Q<18446744073709551616:=by rw [hQ]; exact Nat.mod_lt _ (by decide)
            have f4:IntKind.u64.wrap ((D:Int)*2)=((D*2 % 18446744073709551616:Nat):Int):=by rw [← zAY,Int.natCast_mul]; rfl
            obtain ⟨I,hI⟩:∃ I,I=D*2 % 18446744073709551616:=⟨_,rfl⟩
            rw [← hI] at f4 hgo
            have hIl:I<18446744073709551616:=by rw [hI]; exact Nat.mod_lt _ (by decide)
            obtain ⟨R2,hR2⟩:∃ R2,R2=sqR k:=⟨_,rfl⟩
            rw [← hR2] at eR2 hlt
            have HG:=Lib.hid hgo
            have HR2:=Lib.hid hR2
            clear hgo hR hT hT2 hD hQ hI hR2 eR HL
            go_wp2_with fail
            exact ⟨⟨rfl,k,I,Q,T2,by omega,hIl,hQl,rfl,rfl,rfl,by rw [HR2.out],HG.out⟩,by simp only [intOf]; omega⟩
          · rw [if_neg hle] at hgo
            have c1:¬ (T:Int)≤(ix:Int):=by omega
            have c2:decide ((T:Int)≤(ix:Int))=false:=decide_eq_false c1
            have c3:(ix:Int)<(T:Int):=by omega
            have f4:IntKind.u64.wrap ((ix:Int)*2)=((ix*2 % 18446744073709551616:Nat):Int):=by rw [← zAY,Int.natCast_mul]; rfl
            obtain ⟨I,hI⟩:∃ I,I=ix*2 % 18446744073709551616:=⟨_,rfl⟩
            rw [← hI] at f4 hgo
            have hIl:I<18446744073709551616:=by rw [hI]; exact Nat.mod_lt _ (by decide)
            obtain ⟨R2,hR2⟩:∃ R2,R2=sqR k:=⟨_,rfl⟩
            rw [← hR2] at eR2 hlt
            have HG:=Lib.hid hgo
            have HR2:=Lib.hid hR2
            clear hgo hR hT hI hR2 eR HL hle c1
            go_wp2_with fail
            exact ⟨⟨rfl,k,I,q',s,by omega,hIl,hq'l,rfl,rfl,rfl,by rw [HR2.out],HG.out⟩,by simp only [intOf]; omega⟩
    · have hi3:ix2*2 % 18446744073709551616=ix3:=by simpa [show bits .and .i64 e1 1=1 from by simpa using hod] using H9.out
      have f0:IntKind.u64.wrap ((ix2:Int)*2)=(ix3:Int):=by rw [← hi3,← zAY,Int.natCast_mul]; rfl
      have f1:IntKind.u64.wrap ((ix3:Int)*2)=((ix3*2 % 18446744073709551616:Nat):Int):=by rw [← zAY,Int.natCast_mul]; rfl
      obtain ⟨I0,hI0⟩:∃ I0,I0=ix3*2 % 18446744073709551616:=⟨_,rfl⟩
      have hI0l:I0<18446744073709551616:=by rw [hI0]; exact Nat.mod_lt _ (by decide)
      rw [← hI0] at f1 HL
      clear hI0 hi3
      go_enter Tryz.func102,Tryz.ntmps102
      go_wp2_with (first | (go_at_call 67; refine (zAb x w q2).mono ?_; rintro e w' ⟨rfl,rfl⟩) | (go_at_call 68; refine (zBh x w q3).mono ?_; rintro e w' ⟨rfl,rfl⟩) | (go_at_call 88; refine (zAv _ w).mono ?_; rintro e w' ⟨rfl,rfl⟩) | (go_at_call 66; refine (zAZ _ w).mono ?_; rintro e w' ⟨rfl,rfl⟩))
      go_loopw [3,5,6,7,8] (fun v3 v5 v6 v7 v8 wr=>zXN i0 q0 w wr v3 v5 v6 v7 v8) (fun _ _ _ r _ _=>(intOf r).toNat)
      case atStart=>exact ⟨rfl,54,I0,0,0,by omega,hI0l,by decide,rfl,rfl,rfl,by rw [hs0]; rfl,HL.out⟩
      case round =>
        obtain ⟨rfl,n,ix,q',s,hn,hix,hq'l,rfl,rfl,rfl,rfl,hgo⟩:=hrel
        cases n with
        | zero =>
          have e0':sqR 0=0:=rfl
          have hg:ix=i0∧q'=q0:=by simpa [sqGo] using hgo
          obtain ⟨rfl,rfl⟩:=hg
          rw [e0']
          have H11':=H11.out
          by_cases hz:ix=0
          · subst hz
            have hq:q'=q:=by simpa using H11'
            subst hq
            have HF':=HF.out
            have HO':=HO.out
            go_wp2_with (go_at_call 66; refine (zAZ _ w).mono ?_; rintro e w' ⟨rfl,rfl⟩)
            go_ret
            exact ⟨rfl,rfl⟩
          · have hz':((ix:Int) == 0)=false:=by simpa using hz
            have hz2:¬ (ix:Int)=0:=by simpa using hz
            have hq:(q'+q' % 2) % 18446744073709551616=q:=by simpa [hz] using H11'
            have hq1:IntKind.u64.wrap ((q':Int)+bits .and .u64 (q':Int) 1)=(q:Int):=by
              have hb:bits .and .u64 (q':Int) 1=((q' % 2:Nat):Int):=by
                rw [show (1:Int)=((1:Nat):Int) from rfl,u64_and_nat q' 1 (hq'l) (by decide),Nat.and_one_is_mod]
              rw [hb,← Int.natCast_add,zAY,hq]
            have HF':=HF.out
            have HO':=HO.out
            go_wp2_with (go_at_call 66; refine (zAZ _ w).mono ?_; rintro e w' ⟨rfl,rfl⟩)
            go_ret
            exact ⟨rfl,rfl⟩
        | succ k =>
          obtain ⟨R,hR⟩:∃ R,R=2^k:=⟨_,rfl⟩
          have hR0:0<R:=by rw [hR]; exact Nat.two_pow_pos k
          have eR:sqR (k+1)=R:=by unfold sqR; rw [if_neg (by omega),hR]; rfl
          have eR2:(R:Int) / 2=((sqR k:Nat):Int):=by
            unfold sqR
            cases k with
            | zero=>rw [hR]; rfl
            | succ j=>rw [hR,if_neg (by omega),Nat.pow_succ]; simp
          have hlt:sqR k<R:=by
            unfold sqR
            cases k with
            | zero=>rw [if_pos rfl]; exact hR0
            | succ j=>rw [hR,if_neg (by omega),Nat.pow_succ]; have:=Nat.two_pow_pos j; simp; omega
          rw [eR]
          have hRz:¬ (R:Int)=0:=by omega
          have hRz':((R:Int) == 0)=false:=by simpa using hRz
          unfold sqGo at hgo
          rw [← hR] at hgo
          obtain ⟨T,hT⟩:∃ T,T=(s+R) % 18446744073709551616:=⟨_,rfl⟩
          rw [← hT] at hgo
          have fT:IntKind.u64.wrap ((s:Int)+(R:Int))=(T:Int):=by rw [hT,← zAY,Int.natCast_add]
          by_cases hle:T≤ix
          · rw [if_pos hle] at hgo
            have c1:(T:Int)≤(ix:Int):=by omega
            have f1:IntKind.u64.wrap ((T:Int)+(R:Int))=(((T+R) % 18446744073709551616:Nat):Int):=by rw [← zAY,Int.natCast_add]
            have f2:IntKind.u64.wrap ((ix:Int) - (T:Int))=((ix - T:Nat):Int):=by rw [← Int.natCast_sub hle,zAY,Nat.mod_eq_of_lt (by omega)]
            have f3:IntKind.u64.wrap ((q':Int)+(R:Int))=(((q'+R) % 18446744073709551616:Nat):Int):=by rw [← zAY,Int.natCast_add]
            obtain ⟨T2,hT2⟩:∃ T2,T2=(T+R) % 18446744073709551616:=⟨_,rfl⟩
            obtain ⟨D,hD⟩:∃ D,D=ix - T:=⟨_,rfl⟩
            obtain ⟨Q,hQ⟩:∃ Q,Q=(q'+R) % 18446744073709551616:=⟨_,rfl⟩
            rw [← hT2] at f1 hgo
            rw [← hD] at f2 hgo
            rw [← hQ] at f3 hgo
            have hQl:Q<18446744073709551616:=by rw [hQ]; exact Nat.mod_lt _ (by decide)
            have f4:IntKind.u64.wrap ((D:Int)*2)=((D*2 % 18446744073709551616:Nat):Int):=by rw [← zAY,Int.natCast_mul]; rfl
            obtain ⟨I,hI⟩:∃ I,I=D*2 % 18446744073709551616:=⟨_,rfl⟩
            rw [← hI] at f4 hgo
            have hIl:I<18446744073709551616:=by rw [hI]; exact Nat.mod_lt _ (by decide)
            obtain ⟨R2,hR2⟩:∃ R2,R2=sqR k:=⟨_,rfl⟩
            rw [← hR2] at eR2 hlt
            have HG:=Lib.hid hgo
            have HR2:=Lib.hid hR2
            clear hgo hR hT hT2 hD hQ hI hR2 eR HL
            go_wp2_with fail
            exact ⟨⟨rfl,k,I,Q,T2,by omega,hIl,hQl,rfl,rfl,rfl,by rw [HR2.out],HG.out⟩,by simp only [intOf]; omega⟩
          · rw [if_neg hle] at hgo
            have c1:¬ (T:Int)≤(ix:Int):=by omega
            have c2:decide ((T:Int)≤(ix:Int))=false:=decide_eq_false c1
            have c3:(ix:Int)<(T:Int):=by omega
            have f4:IntKind.u64.wrap ((ix:Int)*2)=((ix*2 % 18446744073709551616:Nat):Int):=by rw [← zAY,Int.natCast_mul]; rfl
            obtain ⟨I,hI⟩:∃ I,I=ix*2 % 18446744073709551616:=⟨_,rfl⟩
            rw [← hI] at f4 hgo
            have hIl:I<18446744073709551616:=by rw [hI]; exact Nat.mod_lt _ (by decide)
            obtain ⟨R2,hR2⟩:∃ R2,R2=sqR k:=⟨_,rfl⟩
            rw [← hR2] at eR2 hlt
            have HG:=Lib.hid hgo
            have HR2:=Lib.hid hR2
            clear hgo hR hT hI hR2 eR HL hle c1
            go_wp2_with fail
            exact ⟨⟨rfl,k,I,q',s,by omega,hIl,hq'l,rfl,rfl,rfl,by rw [HR2.out],HG.out⟩,by simp only [intOf]; omega⟩
  go_enter Tryz.func95,Tryz.ntmps95
  go_wp2_with (go_at_call 102; refine (HX w).mono ?_; rintro e w' ⟨rfl,rfl⟩)
  go_ret
  exact ⟨rfl,rfl⟩
end Go.Proofs.YtllaekopaglolaaGreat
end
/-
  The cubic mapping's inverse log. (Printed by gen_idx5.py.)
-/
section
namespace Go.Proofs.YtllaekopaglolaaGreat
open Go.RowKit
def zHO (x:Nat):Option Nat :=
  (zIK x).bind fun e0 =>
  (fsub x e0).bind fun f1 =>
  (fmul 4605322156423323962 f1).bind fun f2 =>
  (fsub 4606195670930640885 f2).bind fun d1 =>
  (fmul d1 d1).bind fun g1 =>
  (fmul 4616189618054758400 13823793541601948855).bind fun g2 =>
  (fmul g2 13823793541601948855).bind fun g3 =>
  (fmul g3 13823793541601948855).bind fun g4 =>
  (fsub g1 g4).bind fun g5 =>
  (zO2 g5).bind fun s1 =>
  (fsub d1 s1).bind fun g6 =>
  (fdiv g6 4611686018427387904).bind fun g7 =>
  (zFe g7).bind fun c =>
  (fadd 13826951575952896819 c).bind fun h1 =>
  (fdiv 13823793541601948855 c).bind fun h2 =>
  (fadd h1 h2).bind fun h3 =>
  (some (negF h3)).bind fun h4 =>
  (fdiv h4 4602807493447714640).bind fun h5 =>
  (fadd h5 4607182418800017408).bind fun s =>
  (floatToIntVal .f64 e0 .i64).bind fun k =>
  some (zIS k s)
set_option maxRecDepth 100000 in
set_option maxHeartbeats 2000000 in
theorem zQe (x:Nat) (out:Nat) (p:Value) (w:World) (h:zHO x=some out):Calls Tryz.prog 163 #[p,.float .f64 x] w fun e w'=>e = .returned (.float .f64 out)∧w=w':=by
  unfold zHO at h
  simp only [Option.bind_eq_some_iff] at h
  obtain ⟨e0,e1,f1,e2,f2,e3,d1,e4,g1,e5,g2,e6,g3,e7,g4,e8,g5,e9,s1,e10,g6,e11,g7,e12,c,e13,h1,e14,h2,e15,h3,e16,h4,e17,h5,e18,s,e19,k,e20,hout⟩:=h
  have ho0:=Option.some.inj hout
  have q1:=fun w=>zJs x e0 w e1
  have q2:=fun w:World=>run_float_arith (P:=Tryz.prog) w .sub 29 .f64 x e0 f1 e2
  have q3:=fun w:World=>run_float_arith (P:=Tryz.prog) w .mul 29 .f64 4605322156423323962 f1 f2 e3
  have q4:=fun w:World=>run_float_arith (P:=Tryz.prog) w .sub 29 .f64 4606195670930640885 f2 d1 e4
  have q5:=fun w:World=>run_float_arith (P:=Tryz.prog) w .mul 29 .f64 d1 d1 g1 e5
  have q6:=fun w:World=>run_float_arith (P:=Tryz.prog) w .mul 29 .f64 4616189618054758400 13823793541601948855 g2 e6
  have q7:=fun w:World=>run_float_arith (P:=Tryz.prog) w .mul 29 .f64 g2 13823793541601948855 g3 e7
  have q8:=fun w:World=>run_float_arith (P:=Tryz.prog) w .mul 29 .f64 g3 13823793541601948855 g4 e8
  have q9:=fun w:World=>run_float_arith (P:=Tryz.prog) w .sub 29 .f64 g1 g4 g5 e9
  have q10:=fun w=>zTs g5 s1 w e10
  have q11:=fun w:World=>run_float_arith (P:=Tryz.prog) w .sub 29 .f64 d1 s1 g6 e11
  have q12:=fun w:World=>run_float_arith (P:=Tryz.prog) w .quo 29 .f64 g6 4611686018427387904 g7 e12
  have q13:=fun w=>zNV g7 c w e13
  have q14:=fun w:World=>run_float_arith (P:=Tryz.prog) w .add 29 .f64 13826951575952896819 c h1 e14
  have q15:=fun w:World=>run_float_arith (P:=Tryz.prog) w .quo 29 .f64 13823793541601948855 c h2 e15
  have q16:=fun w:World=>run_float_arith (P:=Tryz.prog) w .add 29 .f64 h1 h2 h3 e16
  have q17:=Option.some.inj e17
  have q18:=fun w:World=>run_float_arith (P:=Tryz.prog) w .quo 29 .f64 h4 4602807493447714640 h5 e18
  have q19:=fun w:World=>run_float_arith (P:=Tryz.prog) w .add 29 .f64 h5 4607182418800017408 s e19
  have q20:=fun w=>run_convert_float_int (P:=Tryz.prog) w 29 3 .f64 .i64 e0 k (by simp [Tryz.underlying29]) Tryz.underlying3 e20
  clear e1 e2 e3 e4 e5 e6 e7 e8 e9 e10 e11 e12 e13 e14 e15 e16 e17 e18 e19 e20 hout
  subst ho0
  go_enter Tryz.func163,Tryz.ntmps163
  go_wp2_with (first | (go_at_call 151; refine (q1 w).mono ?_; rintro e w' ⟨rfl,rfl⟩) | (go_at_call 95; refine (q10 w).mono ?_; rintro e w' ⟨rfl,rfl⟩) | (go_at_call 164; refine (q13 w).mono ?_; rintro e w' ⟨rfl,rfl⟩) | (go_at_call 152; refine (zKD k s w).mono ?_; rintro e w' ⟨rfl,rfl⟩))
  go_ret
  exact ⟨rfl,rfl⟩
end Go.Proofs.YtllaekopaglolaaGreat
end
