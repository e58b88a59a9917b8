/-
  Log and Exp whole; Log2; Pow with an exponent whose whole part comes to one; Max,Min. (Printed by gen_math3.py.)
-/
import Derived.Test.YtllaekopaglolaaGreatHAB
import Derived.Laws.FloatArith
section
namespace Go.Proofs.YtllaekopaglolaaGreat
open Go.RowKit
def logF (x:Nat):Option Nat:=(zDF x).or (zDj x)
theorem zFt (x out:Nat) (w:World) (h:logF x=some out):Calls Tryz.prog 81 #[.float .f64 x] w fun e w'=>e = .returned (.float .f64 out)∧w=w':=by
  unfold logF at h
  rcases Option.or_eq_some_iff.1 h with h | ⟨_,h⟩
  · exact zQY x out w h
  · exact zM0 x out w h
def expF (x:Nat):Option Nat:=(zHc x).or ((zHd x).or ((zFS x).or ((zGh x).or (zFT x))))
theorem zDH (x out:Nat) (w:World) (h:expF x=some out):Calls Tryz.prog 83 #[.float .f64 x] w fun e w'=>e = .returned (.float .f64 out)∧w=w':=by
  unfold expF at h
  rcases Option.or_eq_some_iff.1 h with h | ⟨_,h⟩
  · exact zQo x out w h
  rcases Option.or_eq_some_iff.1 h with h | ⟨_,h⟩
  · exact zQp x out w h
  rcases Option.or_eq_some_iff.1 h with h | ⟨_,h⟩
  · exact zNK x out w h
  rcases Option.or_eq_some_iff.1 h with h | ⟨_,h⟩
  · exact zNM x out w h
  · exact zJx x out w h
def zHv (x:Nat):Option Nat:=(zHe x).or (zFz x)
theorem zGi (x out:Nat) (w:World) (h:zHv x=some out):Calls Tryz.prog 87 #[.float .f64 x] w fun e w'=>e = .returned (.float .f64 out)∧w=w':=by
  unfold zHv at h
  rcases Option.or_eq_some_iff.1 h with h | ⟨_,h⟩
  · exact zJy x out w h
  · exact zI1 x out w h
def zIp (x:Nat):Option Nat :=
  (zEF x).bind fun ⟨f,k⟩ =>
  (need (!(feq f 4602678819172646912))).bind fun _ =>
  (logF f).bind fun l =>
  (fmul l 4609176140021203710).bind fun m =>
  (some (floatOfInt .f64 k)).bind fun kf =>
  (fadd m kf).bind fun r =>
  some r
set_option maxRecDepth 100000 in
set_option maxHeartbeats 400000 in
theorem zFM (x:Nat) (out:Nat) (w:World) (h:zIp x=some out):Calls Tryz.prog 71 #[.float .f64 x] w fun e w'=>e = .returned (.float .f64 out)∧w=w':=by
  unfold zIp at h
  simp only [Option.bind_eq_some_iff,Prod.exists] at h
  obtain ⟨f,k,e1,_u2,e2,l,e3,m,e4,kf,e5,r,e6,hout⟩:=h
  have ho0:=Option.some.inj hout
  have q1:=fun w=>zEE x f k w e1
  have q2:(FloatKind.f64.format.order f 4602678819172646912 == some .eq)=false:=zAE e2
  have q3:=fun w=>zFt f l w e3
  have q4:=fun w:World=>run_float_arith (P:=Tryz.prog) w .mul 29 .f64 l 4609176140021203710 m e4
  have q5:=Option.some.inj e5
  have q6:=fun w:World=>run_float_arith (P:=Tryz.prog) w .add 29 .f64 m kf r e6
  clear e1 e2 e3 e4 e5 e6 hout
  subst ho0
  have HX:∀ w,Calls Tryz.prog 86 #[.float .f64 x] w fun e w'=>e = .returned (.float .f64 r)∧w=w':=by
    intro w
    go_enter Tryz.func86,Tryz.ntmps86
    go_wp2_with (first | (go_at_call 97; refine (q1 w).mono ?_; rintro e w' ⟨rfl,rfl⟩) | (go_at_call 81; refine (q3 w).mono ?_; rintro e w' ⟨rfl,rfl⟩))
    go_ret
    exact ⟨rfl,rfl⟩
  go_enter Tryz.func71,Tryz.ntmps71
  go_wp2_with (go_at_call 86; refine (HX w).mono ?_; rintro e w' ⟨rfl,rfl⟩)
  go_ret
  exact ⟨rfl,rfl⟩
def zVZ (a1 a2 x1:Nat) (xe:Int) (w wr:World) (v7 v8 v9 v10 v11:Value):Prop :=
  w=wr∧((v11 = .int .i64 1∧v7 = .float .f64 a1∧v8 = .int .i64 0∧v9 = .float .f64 x1∧v10 = .int .i64 xe)∨(v11 = .int .i64 0∧v7 = .float .f64 a2∧v8 = .int .i64 xe∧∃ f k,v9 = .float .f64 f∧v10 = .int .i64 k))
def zJV (x:Nat) (y:Nat):Option Nat :=
  (need (!(feq y 0))).bind fun _ =>
  (need (!(feq x 4607182418800017408))).bind fun _ =>
  (need (!(feq y 4607182418800017408))).bind fun _ =>
  (need (zA7 x)).bind fun _ =>
  (need (zA7 y)).bind fun _ =>
  (need (!(feq x 0))).bind fun _ =>
  (need (zED y)).bind fun _ =>
  (need (zED x)).bind fun _ =>
  (need (!(feq y 4602678819172646912))).bind fun _ =>
  (need (!(feq y 13826050856027422720))).bind fun _ =>
  (some (absF y)).bind fun ya =>
  (zIk ya).bind fun ⟨yi,yf⟩ =>
  (need (!(feq yf 0))).bind fun _ =>
  (need (!(flt x 0))).bind fun _ =>
  (need (!(fge yi 4890909195324358656))).bind fun _ =>
  (need (fgt yf 4602678819172646912)).bind fun _ =>
  (fsub yf 4607182418800017408).bind fun yg =>
  (fadd yi 4607182418800017408).bind fun yj =>
  (logF x).bind fun l =>
  (fmul yg l).bind fun m =>
  (expF m).bind fun a1 =>
  (zEF x).bind fun ⟨x1,xe⟩ =>
  (floatToIntVal .f64 yj .i64).bind fun i =>
  (need (decide (i=1)&&(decide (-4096≤xe)&&decide (xe≤4096)))).bind fun _ =>
  (fmul a1 x1).bind fun a2 =>
  (fmul x1 x1).bind fun x2 =>
  (fadd x2 x2).bind fun _x3 =>
  (need (!(flt y 0))).bind fun _ =>
  (zGI a2 xe).bind fun r =>
  some r
set_option maxRecDepth 100000 in
set_option maxHeartbeats 1000000 in
theorem zRt (x:Nat) (y:Nat) (out:Nat) (w:World) (h:zJV x y=some out):Calls Tryz.prog 70 #[.float .f64 x,.float .f64 y] w fun e w'=>e = .returned (.float .f64 out)∧w=w':=by
  unfold zJV at h
  simp only [Option.bind_eq_some_iff,Prod.exists] at h
  obtain ⟨_u1,e1,_u2,e2,_u3,e3,_u4,e4,_u5,e5,_u6,e6,_u7,e7,_u8,e8,_u9,e9,_u10,e10,ya,e11,yi,yf,e12,_u13,e13,_u15,e15,_u16,e16,_u17,e17,yg,e18,yj,e19,l,e20,m,e21,a1,e22,x1,xe,e23,i,e24,_u25,e25,a2,e31,x2,e32,_x3,e33,_u34,e34,r,e35,hout⟩:=h
  have ho0:=Option.some.inj hout
  have q1:(FloatKind.f64.format.order y 0 == some .eq)=false:=zAE e1
  have q2:(FloatKind.f64.format.order x 4607182418800017408 == some .eq)=false:=zAE e2
  have q3:(FloatKind.f64.format.order y 4607182418800017408 == some .eq)=false:=zAE e3
  have q4:=zAO e4
  have q5:=zAO e5
  have q6:(FloatKind.f64.format.order x 0 == some .eq)=false:=zAE e6
  have q7:=zAO e7
  have q8:=zAO e8
  have q9:(FloatKind.f64.format.order y 4602678819172646912 == some .eq)=false:=zAE e9
  have q10:(FloatKind.f64.format.order y 13826050856027422720 == some .eq)=false:=zAE e10
  have q11:=Option.some.inj e11
  have q12:=fun w=>zFK ya yi yf w e12
  have q13:(FloatKind.f64.format.order yf 0 == some .eq)=false:=zAE e13
  have hyf:(FloatKind.f64.format.order yf 0 != some .eq)=true:=by simpa [bne] using q13
  have q15:(FloatKind.f64.format.order x 0 == some .lt)=false:=zAE e15
  have q16:(FloatKind.f64.format.order yi 4890909195324358656 == some .gt||FloatKind.f64.format.order yi 4890909195324358656 == some .eq)=false:=zAE e16
  have q17:(FloatKind.f64.format.order yf 4602678819172646912 == some .gt)=true:=zAO e17
  have q18:=fun w:World=>run_float_arith (P:=Tryz.prog) w .sub 29 .f64 yf 4607182418800017408 yg e18
  have q19:=fun w:World=>run_float_arith (P:=Tryz.prog) w .add 29 .f64 yi 4607182418800017408 yj e19
  have q20:=fun w=>zFt x l w e20
  have q21:=fun w:World=>run_float_arith (P:=Tryz.prog) w .mul 29 .f64 yg l m e21
  have q22:=fun w=>zDH m a1 w e22
  have q23:=fun w=>zEE x x1 xe w e23
  have q24:=fun w=>run_convert_float_int (P:=Tryz.prog) w 29 2 .f64 .i64 yj i (by simp [Tryz.underlying29]) Tryz.underlying2 e24
  have q25:=zAO e25
  obtain ⟨hi1,hb1,hb2⟩:i=1 ∧ -4096≤xe∧xe≤4096:=by simpa using q25
  have hn1:¬ xe < -4096:=by omega
  have hn2:¬ 4096<xe:=by omega
  have hwx:wrap64 xe=xe:=by unfold wrap64; omega
  have hba:bits .and .i64 1 1=1:=by decide
  have q31:=fun w:World=>run_float_arith (P:=Tryz.prog) w .mul 29 .f64 a1 x1 a2 e31
  have q32:=fun w:World=>run_float_arith (P:=Tryz.prog) w .mul 29 .f64 x1 x1 x2 e32
  have q33:=fun w:World=>run_float_arith (P:=Tryz.prog) w .add 29 .f64 x2 x2 _x3 e33
  have q34:(FloatKind.f64.format.order y 0 == some .lt)=false:=zAE e34
  have q35:=fun w=>zHL a2 xe r w e35
  clear e1 e2 e3 e4 e5 e6 e7 e8 e9 e10 e11 e12 e13 e15 e16 e17 e18 e19 e20 e21 e22 e23 e24 e25 e31 e32 e33 e34 e35 hout
  subst ho0
  have hab:∀ w,Calls Tryz.prog 80 #[.float .f64 y] w fun e w'=>e = .returned (.float .f64 ya)∧w=w':=fun w=>by rw [← q11]; exact zDI y w
  clear q11
  subst hi1
  have HX:∀ w,Calls Tryz.prog 85 #[.float .f64 x,.float .f64 y] w fun e w'=>e = .returned (.float .f64 r)∧w=w':=by
    intro w
    go_enter Tryz.func85,Tryz.ntmps85
    go_wp2_with (first | (go_at_call 80; refine (hab w).mono ?_; rintro e w' ⟨rfl,rfl⟩) | (go_at_call 67; first | (with_reducible refine (zAb x w q4).mono ?_; rintro e w' ⟨rfl,rfl⟩) | (with_reducible refine (zAb y w q5).mono ?_; rintro e w' ⟨rfl,rfl⟩)) | (go_at_call 68; first | (with_reducible refine (zBt x w q8).mono ?_; rintro e w' ⟨rfl,rfl⟩) | (with_reducible refine (zBt y w q7).mono ?_; rintro e w' ⟨rfl,rfl⟩)) | (first | (go_at_call 96; refine (q12 w).mono ?_; rintro e w' ⟨rfl,rfl⟩) | (go_at_call 81; refine (q20 w).mono ?_; rintro e w' ⟨rfl,rfl⟩) | (go_at_call 83; refine (q22 w).mono ?_; rintro e w' ⟨rfl,rfl⟩) | (go_at_call 97; refine (q23 w).mono ?_; rintro e w' ⟨rfl,rfl⟩) | (go_at_call 98; refine (q35 w).mono ?_; rintro e w' ⟨rfl,rfl⟩)))
    go_loopw [7,8,9,10,11] (fun v7 v8 v9 v10 v11 wr=>zVZ a1 a2 x1 xe w wr v7 v8 v9 v10 v11) (fun _ _ _ _ i _=>(intOf i).toNat)
    case atStart=>exact ⟨rfl,.inl ⟨rfl,rfl,rfl,rfl,rfl⟩⟩
    case round =>
      obtain ⟨rfl,⟨rfl,rfl,rfl,rfl,rfl⟩ | ⟨rfl,rfl,rfl,f,k,rfl,rfl⟩⟩:=hrel
      · cases hlt:(FloatKind.f64.format.order x2 4602678819172646912 == some .lt)
        · go_wp2_with fail
          exact ⟨⟨rfl,.inr ⟨rfl,rfl,rfl,_,_,rfl,rfl⟩⟩,by decide⟩
        · go_wp2_with fail
          exact ⟨⟨rfl,.inr ⟨rfl,rfl,rfl,_,_,rfl,rfl⟩⟩,by decide⟩
      · go_wp2_with (first | (first | (go_at_call 96; refine (q12 w).mono ?_; rintro e w' ⟨rfl,rfl⟩) | (go_at_call 81; refine (q20 w).mono ?_; rintro e w' ⟨rfl,rfl⟩) | (go_at_call 83; refine (q22 w).mono ?_; rintro e w' ⟨rfl,rfl⟩) | (go_at_call 97; refine (q23 w).mono ?_; rintro e w' ⟨rfl,rfl⟩) | (go_at_call 98; refine (q35 w).mono ?_; rintro e w' ⟨rfl,rfl⟩)))
        go_ret
        exact ⟨rfl,rfl⟩
  go_enter Tryz.func70,Tryz.ntmps70
  go_wp2_with (go_at_call 85; refine (HX w).mono ?_; rintro e w' ⟨rfl,rfl⟩)
  go_ret
  exact ⟨rfl,rfl⟩
def zFE (x:Nat) (y:Nat):Option Nat :=
  (need (!(feq y 0))).bind fun _ =>
  (need (!(feq x 4607182418800017408))).bind fun _ =>
  (need (!(feq y 4607182418800017408))).bind fun _ =>
  (need (zA7 x)).bind fun _ =>
  (need (zA7 y)).bind fun _ =>
  (need (!(feq x 0))).bind fun _ =>
  (need (zED y)).bind fun _ =>
  (need (zED x)).bind fun _ =>
  (need (!(feq y 4602678819172646912))).bind fun _ =>
  (need (!(feq y 13826050856027422720))).bind fun _ =>
  (some (absF y)).bind fun ya =>
  (zIk ya).bind fun ⟨yi,yf⟩ =>
  (need (!(feq yf 0))).bind fun _ =>
  (need (!(flt x 0))).bind fun _ =>
  (need (!(fge yi 4890909195324358656))).bind fun _ =>
  (need (!(fgt yf 4602678819172646912))).bind fun _ =>
  (logF x).bind fun l =>
  (fmul yf l).bind fun m =>
  (expF m).bind fun a1 =>
  (zEF x).bind fun ⟨x1,xe⟩ =>
  (floatToIntVal .f64 yi .i64).bind fun i =>
  (need (decide (i=1)&&(decide (-4096≤xe)&&decide (xe≤4096)))).bind fun _ =>
  (fmul a1 x1).bind fun a2 =>
  (fmul x1 x1).bind fun x2 =>
  (fadd x2 x2).bind fun _x3 =>
  (need (!(flt y 0))).bind fun _ =>
  (zGI a2 xe).bind fun r =>
  some r
set_option maxRecDepth 100000 in
set_option maxHeartbeats 1000000 in
theorem zKZ (x:Nat) (y:Nat) (out:Nat) (w:World) (h:zFE x y=some out):Calls Tryz.prog 70 #[.float .f64 x,.float .f64 y] w fun e w'=>e = .returned (.float .f64 out)∧w=w':=by
  unfold zFE at h
  simp only [Option.bind_eq_some_iff,Prod.exists] at h
  obtain ⟨_u1,e1,_u2,e2,_u3,e3,_u4,e4,_u5,e5,_u6,e6,_u7,e7,_u8,e8,_u9,e9,_u10,e10,ya,e11,yi,yf,e12,_u13,e13,_u15,e15,_u16,e16,_u17,e17,l,e18,m,e19,a1,e20,x1,xe,e21,i,e22,_u23,e23,a2,e29,x2,e30,_x3,e31,_u32,e32,r,e33,hout⟩:=h
  have ho0:=Option.some.inj hout
  have q1:(FloatKind.f64.format.order y 0 == some .eq)=false:=zAE e1
  have q2:(FloatKind.f64.format.order x 4607182418800017408 == some .eq)=false:=zAE e2
  have q3:(FloatKind.f64.format.order y 4607182418800017408 == some .eq)=false:=zAE e3
  have q4:=zAO e4
  have q5:=zAO e5
  have q6:(FloatKind.f64.format.order x 0 == some .eq)=false:=zAE e6
  have q7:=zAO e7
  have q8:=zAO e8
  have q9:(FloatKind.f64.format.order y 4602678819172646912 == some .eq)=false:=zAE e9
  have q10:(FloatKind.f64.format.order y 13826050856027422720 == some .eq)=false:=zAE e10
  have q11:=Option.some.inj e11
  have q12:=fun w=>zFK ya yi yf w e12
  have q13:(FloatKind.f64.format.order yf 0 == some .eq)=false:=zAE e13
  have hyf:(FloatKind.f64.format.order yf 0 != some .eq)=true:=by simpa [bne] using q13
  have q15:(FloatKind.f64.format.order x 0 == some .lt)=false:=zAE e15
  have q16:(FloatKind.f64.format.order yi 4890909195324358656 == some .gt||FloatKind.f64.format.order yi 4890909195324358656 == some .eq)=false:=zAE e16
  have q17:(FloatKind.f64.format.order yf 4602678819172646912 == some .gt)=false:=zAE e17
  have q18:=fun w=>zFt x l w e18
  have q19:=fun w:World=>run_float_arith (P:=Tryz.prog) w .mul 29 .f64 yf l m e19
  have q20:=fun w=>zDH m a1 w e20
  have q21:=fun w=>zEE x x1 xe w e21
  have q22:=fun w=>run_convert_float_int (P:=Tryz.prog) w 29 2 .f64 .i64 yi i (by simp [Tryz.underlying29]) Tryz.underlying2 e22
  have q23:=zAO e23
  obtain ⟨hi1,hb1,hb2⟩:i=1 ∧ -4096≤xe∧xe≤4096:=by simpa using q23
  have hn1:¬ xe < -4096:=by omega
  have hn2:¬ 4096<xe:=by omega
  have hwx:wrap64 xe=xe:=by unfold wrap64; omega
  have hba:bits .and .i64 1 1=1:=by decide
  have q29:=fun w:World=>run_float_arith (P:=Tryz.prog) w .mul 29 .f64 a1 x1 a2 e29
  have q30:=fun w:World=>run_float_arith (P:=Tryz.prog) w .mul 29 .f64 x1 x1 x2 e30
  have q31:=fun w:World=>run_float_arith (P:=Tryz.prog) w .add 29 .f64 x2 x2 _x3 e31
  have q32:(FloatKind.f64.format.order y 0 == some .lt)=false:=zAE e32
  have q33:=fun w=>zHL a2 xe r w e33
  clear e1 e2 e3 e4 e5 e6 e7 e8 e9 e10 e11 e12 e13 e15 e16 e17 e18 e19 e20 e21 e22 e23 e29 e30 e31 e32 e33 hout
  subst ho0
  have hab:∀ w,Calls Tryz.prog 80 #[.float .f64 y] w fun e w'=>e = .returned (.float .f64 ya)∧w=w':=fun w=>by rw [← q11]; exact zDI y w
  clear q11
  subst hi1
  have HX:∀ w,Calls Tryz.prog 85 #[.float .f64 x,.float .f64 y] w fun e w'=>e = .returned (.float .f64 r)∧w=w':=by
    intro w
    go_enter Tryz.func85,Tryz.ntmps85
    go_wp2_with (first | (go_at_call 80; refine (hab w).mono ?_; rintro e w' ⟨rfl,rfl⟩) | (go_at_call 67; first | (with_reducible refine (zAb x w q4).mono ?_; rintro e w' ⟨rfl,rfl⟩) | (with_reducible refine (zAb y w q5).mono ?_; rintro e w' ⟨rfl,rfl⟩)) | (go_at_call 68; first | (with_reducible refine (zBt x w q8).mono ?_; rintro e w' ⟨rfl,rfl⟩) | (with_reducible refine (zBt y w q7).mono ?_; rintro e w' ⟨rfl,rfl⟩)) | (first | (go_at_call 96; refine (q12 w).mono ?_; rintro e w' ⟨rfl,rfl⟩) | (go_at_call 81; refine (q18 w).mono ?_; rintro e w' ⟨rfl,rfl⟩) | (go_at_call 83; refine (q20 w).mono ?_; rintro e w' ⟨rfl,rfl⟩) | (go_at_call 97; refine (q21 w).mono ?_; rintro e w' ⟨rfl,rfl⟩) | (go_at_call 98; refine (q33 w).mono ?_; rintro e w' ⟨rfl,rfl⟩)))
    go_loopw [7,8,9,10,11] (fun v7 v8 v9 v10 v11 wr=>zVZ a1 a2 x1 xe w wr v7 v8 v9 v10 v11) (fun _ _ _ _ i _=>(intOf i).toNat)
    case atStart=>exact ⟨rfl,.inl ⟨rfl,rfl,rfl,rfl,rfl⟩⟩
    case round =>
      obtain ⟨rfl,⟨rfl,rfl,rfl,rfl,rfl⟩ | ⟨rfl,rfl,rfl,f,k,rfl,rfl⟩⟩:=hrel
      · cases hlt:(FloatKind.f64.format.order x2 4602678819172646912 == some .lt)
        · go_wp2_with fail
          exact ⟨⟨rfl,.inr ⟨rfl,rfl,rfl,_,_,rfl,rfl⟩⟩,by decide⟩
        · go_wp2_with fail
          exact ⟨⟨rfl,.inr ⟨rfl,rfl,rfl,_,_,rfl,rfl⟩⟩,by decide⟩
      · go_wp2_with (first | (first | (go_at_call 96; refine (q12 w).mono ?_; rintro e w' ⟨rfl,rfl⟩) | (go_at_call 81; refine (q18 w).mono ?_; rintro e w' ⟨rfl,rfl⟩) | (go_at_call 83; refine (q20 w).mono ?_; rintro e w' ⟨rfl,rfl⟩) | (go_at_call 97; refine (q21 w).mono ?_; rintro e w' ⟨rfl,rfl⟩) | (go_at_call 98; refine (q33 w).mono ?_; rintro e w' ⟨rfl,rfl⟩)))
        go_ret
        exact ⟨rfl,rfl⟩
  go_enter Tryz.func70,Tryz.ntmps70
  go_wp2_with (go_at_call 85; refine (HX w).mono ?_; rintro e w' ⟨rfl,rfl⟩)
  go_ret
  exact ⟨rfl,rfl⟩
def powF (x y:Nat):Option Nat:=(zJV x y).or (zFE x y)
theorem zIe (x y out:Nat) (w:World) (h:powF x y=some out):Calls Tryz.prog 70 #[.float .f64 x,.float .f64 y] w fun e w'=>e = .returned (.float .f64 out)∧w=w':=by
  unfold powF at h
  rcases Option.or_eq_some_iff.1 h with h | ⟨_,h⟩
  · exact zRt x y out w h
  · exact zKZ x y out w h
end Go.Proofs.YtllaekopaglolaaGreat
end
/-
  Max and Min as the mappings use them.
-/
section
namespace Go.Proofs.YtllaekopaglolaaGreat
open Go.RowKit
def negF (x:Nat):Nat:=Op.negFloat .f64 x
@[go_sem] theorem zRK (x:Nat):Op.unary .neg (.float .f64 x)=pure (.float .f64 (negF x)):=rfl
set_option maxRecDepth 100000 in
theorem zGJ (x:Nat) (w:World) (h:fgt (negF x) 9218868437227405311=false):Calls Tryz.prog 68 #[.float .f64 x,.int .i64 (-1)] w fun e w'=>e = .returned (.bool false)∧w=w':=by
  have h':(FloatKind.f64.format.order (negF x) 9218868437227405311 == some .gt)=false:=h
  clear h
  go_enter Tryz.func68,Tryz.ntmps68
  go_wp2
  go_ret
  exact ⟨rfl,rfl⟩
set_option maxRecDepth 100000 in
theorem zKp (y:Nat) (w:World) (h1:fgt (negF y) 9218868437227405311=false) (h2:zA7 y=true) (h4:flt 9218868437227405312 y=false):Calls Tryz.prog 84 #[.float .f64 9218868437227405312,.float .f64 y] w fun e w'=>e = .returned (.float .f64 y)∧w=w':=by
  have k4:(FloatKind.f64.format.order 9218868437227405312 y == some .lt)=false:=h4
  have k0:(FloatKind.f64.format.order 9218868437227405312 0 == some .eq)=false:=by decide +kernel
  have HN:=fun w=>zAb y w h2
  have HI:=fun w=>zGJ y w h1
  have HN0:=fun w=>zAb 9218868437227405312 w (by decide +kernel)
  have HI0:=fun w=>zGJ 9218868437227405312 w (by decide +kernel)
  clear h1 h2 h4
  have HX:∀ w,Calls Tryz.prog 92 #[.float .f64 9218868437227405312,.float .f64 y] w fun e w'=>e = .returned (.float .f64 y)∧w=w':=by
    intro w
    go_enter Tryz.func92,Tryz.ntmps92
    go_wp2_with (first | (go_at_call 67; first | (with_reducible refine (HN0 w).mono ?_; rintro e w' ⟨rfl,rfl⟩) | (with_reducible refine (HN w).mono ?_; rintro e w' ⟨rfl,rfl⟩)) | (go_at_call 68; first | (with_reducible refine (HI0 w).mono ?_; rintro e w' ⟨rfl,rfl⟩) | (with_reducible refine (HI w).mono ?_; rintro e w' ⟨rfl,rfl⟩)))
    go_ret
    exact ⟨rfl,rfl⟩
  go_enter Tryz.func84,Tryz.ntmps84
  go_wp2_with (go_at_call 92; refine (HX w).mono ?_; rintro e w' ⟨rfl,rfl⟩)
  go_ret
  exact ⟨rfl,rfl⟩
set_option maxRecDepth 100000 in
theorem zKw (y:Nat) (w:World) (h1:fgt y 9218868437227405311=false) (h2:zA7 y=true) (h3:feq 0 y=false) (h4:fgt 0 y=false):Calls Tryz.prog 82 #[.float .f64 0,.float .f64 y] w fun e w'=>e = .returned (.float .f64 y)∧w=w':=by
  have k3:(FloatKind.f64.format.order 0 y == some .eq)=false:=h3
  have k4:(FloatKind.f64.format.order 0 y == some .gt)=false:=h4
  have k0:(FloatKind.f64.format.order 0 0 == some .eq)=true:=by decide +kernel
  have HN:=fun w=>zAb y w h2
  have HI:=fun w=>zBh y w h1
  have HN0:=fun w=>zAb 0 w (by decide +kernel)
  have HI0:=fun w=>zBh 0 w (by decide +kernel)
  clear h1 h2 h3 h4
  have HX:∀ w,Calls Tryz.prog 90 #[.float .f64 0,.float .f64 y] w fun e w'=>e = .returned (.float .f64 y)∧w=w':=by
    intro w
    go_enter Tryz.func90,Tryz.ntmps90
    go_wp2_with (first | (go_at_call 67; first | (with_reducible refine (HN0 w).mono ?_; rintro e w' ⟨rfl,rfl⟩) | (with_reducible refine (HN w).mono ?_; rintro e w' ⟨rfl,rfl⟩)) | (go_at_call 68; first | (with_reducible refine (HI0 w).mono ?_; rintro e w' ⟨rfl,rfl⟩) | (with_reducible refine (HI w).mono ?_; rintro e w' ⟨rfl,rfl⟩)))
    go_ret
    exact ⟨rfl,rfl⟩
  go_enter Tryz.func82,Tryz.ntmps82
  go_wp2_with (go_at_call 90; refine (HX w).mono ?_; rintro e w' ⟨rfl,rfl⟩)
  go_ret
  exact ⟨rfl,rfl⟩
end Go.Proofs.YtllaekopaglolaaGreat
end
/-
  Plain laws on floats: what a rounded number reads as,where it is exact; how two floats stand,by their values.
-/
section
namespace Go.Proofs.YtllaekopaglolaaGreat
open Ieee
set_option exponentiation.threshold 3000
set_option linter.unusedSimpArgs false
def sv (s:Bool) (m:Nat) (i:Int):Int:=signed s m (i+1074).toNat
theorem zAn (s:Bool) (m k:Nat):signed s m k=(if s then -1 else 1)*((m:Int)*2^k):=by
  unfold signed
  cases s <;> simp [Nat.shiftLeft_eq]
theorem zRY (s:Bool) (m k l:Nat):signed s m (k+l)=signed s m k*2^l:=by
  rw [zAn,zAn,Int.pow_add]; cases s <;> simp [Int.mul_assoc,Int.neg_mul]
theorem zGs (s:Bool) (m:Nat) (i base:Int) (h0:-1074≤base) (h1:base≤i):sv s m i=signed s m (i - base).toNat*2^(base+1074).toNat:=by
  unfold sv
  rw [show (i+1074).toNat=(i - base).toNat+(base+1074).toNat from by omega,zRY]
theorem zBN (k:Nat):(0:Int)<2^k:=Int.pow_pos (by decide)
theorem zJ7 (a b:Int) (k:Nat):compare (a*2^k) (b*2^k)=compare a b:=by
  have hk:=zBN k
  rcases Int.lt_trichotomy a b with h | h | h
  · rw [Int.compare_eq_lt.2 h,Int.compare_eq_lt.2 (Int.mul_lt_mul_of_pos_right h hk)]
  · subst h; simp
  · rw [Int.compare_eq_gt.2 h,Int.compare_eq_gt.2 (Int.mul_lt_mul_of_pos_right h hk)]
theorem zCC (s t:Bool) (m n:Nat) (i j:Int) (hi:-1074≤i) (hj:-1074≤j):(Datum.number s m i).order (.number t n j)=some (compare (sv s m i) (sv t n j)):=by
  unfold Datum.order
  have hb:-1074≤min i j:=by omega
  rw [zGs s m i (min i j) hb (by omega),zGs t n j (min i j) hb (by omega),zJ7]
theorem zNm (s t:Bool) (m n:Nat) (i j:Int) (hi:-1074≤i) (hj:-1074≤j):∃ ns mg b,(Datum.number s m i).sum (.number t n j)=some (.number ns mg b) ∧ -1074≤b∧sv ns mg b=sv s m i+sv t n j∧(mg=0→ns=(s&&t)):=by
  refine ⟨_,_,_,rfl,by omega,?_,?_⟩
  · have hb:-1074≤min i j:=by omega
    rw [zGs s m i (min i j) hb (by omega),zGs t n j (min i j) hb (by omega),zGs _ _ (min i j) (min i j) hb (by omega),← Int.add_mul]
    congr 1
    rw [Int.sub_self]
    generalize signed s m (i - min i j).toNat+signed t n (j - min i j).toNat=T
    show signed _ _ 0=T
    rw [zAn]
    by_cases h0:T=0
    · subst h0; simp
    · by_cases h1:T<0 <;> simp [h0,h1] <;> omega
  · intro h
    have:signed s m (i - min i j).toNat+signed t n (j - min i j).toNat=0:=by omega
    simp [this]
theorem zBp (neg:Bool) (a kept:Nat) (ha:a≤2045) (hk:kept≤9007199254740992) (h:4503599627370496≤kept∨a=0) (hr:a*4503599627370496+kept<2047*4503599627370496) :
    ∃ m i,double.read (double.word neg (a*4503599627370496+kept)) = .number neg m i ∧ -1074≤i∧i≤971∧m<9007199254740992∧m*2^(i+1074).toNat=kept*2^a:=by
  have e1:double.signWeight=9223372036854775808:=by decide
  have e2:double.binade=4503599627370496:=by decide
  have e3:double.infRung=2047*4503599627370496:=by decide
  have e4:double.leastPlace = -1074:=by decide
  have hneg:((double.word neg (a*4503599627370496+kept)) / 9223372036854775808 % 2 == 1)=neg:=by
    unfold Format.word
    rw [e1]
    cases neg
    · simp; omega
    · simp; omega
  have hrung:(double.word neg (a*4503599627370496+kept)) % 9223372036854775808=a*4503599627370496+kept:=by
    unfold Format.word
    rw [e1]
    cases neg
    · simp; omega
    · simp; omega
  unfold Format.read
  rw [e1,e2,e3,e4,hneg,hrung]
  by_cases h1:a*4503599627370496+kept<4503599627370496
  · have:a=0:=by omega
    subst this
    refine ⟨kept,-1074,?_,by omega,by omega,by omega,by simp⟩
    rw [if_pos h1]; simp
  · rw [if_neg h1,if_pos hr]
    by_cases h2:kept=9007199254740992
    · subst h2
      refine ⟨4503599627370496,(a:Int)+1 - 1074,?_,by omega,by omega,by omega,?_⟩
      · have f1:(a*4503599627370496+9007199254740992) % 4503599627370496=0:=by omega
        have f2:(a*4503599627370496+9007199254740992) / 4503599627370496=a+2:=by omega
        rw [f1,f2]
        have f3:(-1074:Int)+((a+2 - 1:Nat):Int)=(a:Int)+1 - 1074:=by omega
        rw [f3]
      · rw [show ((a:Int)+1 - 1074+1074).toNat=a+1 from by omega,Nat.pow_succ]; omega
    · have f1:(a*4503599627370496+kept) % 4503599627370496=kept - 4503599627370496:=by omega
      have f2:(a*4503599627370496+kept) / 4503599627370496=a+1:=by omega
      refine ⟨kept,(a:Int) - 1074,?_,by omega,by omega,by omega,?_⟩
      · have f3:(-1074:Int)+((a+1 - 1:Nat):Int)=(a:Int) - 1074:=by omega
        have f4:4503599627370496+(kept - 4503599627370496)=kept:=by omega
        rw [f1,f2,f3,f4]
      · rw [show ((a:Int) - 1074+1074).toNat=a from by omega]
theorem zJ3 (neg:Bool) (K d:Nat) (hK:0<K):Toward.even.cut neg (K*2^d) d=K:=by
  have hl:d≤(K*2^d).log2+2:=by
    have:d≤(K*2^d).log2:=(Nat.le_log2 (by have:=Nat.two_pow_pos d; exact Nat.ne_of_gt (Nat.mul_pos hK this))).2 (Nat.le_mul_of_pos_left _ hK)
    omega
  unfold Toward.cut
  rw [Nat.min_eq_left hl,Nat.one_shiftLeft]
  have h1:K*2^d / 2^d=K:=Nat.mul_div_cancel _ (Nat.two_pow_pos d)
  have h2:K*2^d % 2^d=0:=Nat.mul_mod_left _ _
  simp only [h1,h2]
  have:=Nat.two_pow_pos d
  simp
theorem zAX (m k:Nat) (h:0<m):(m*2^k).log2=m.log2+k:=by
  have h0:m*2^k≠0:=Nat.ne_of_gt (Nat.mul_pos h (Nat.two_pow_pos k))
  refine (Nat.log2_eq_iff h0).2 ⟨?_,?_⟩
  · rw [Nat.pow_add]; exact Nat.mul_le_mul_right _ (Nat.log2_self_le (Nat.ne_of_gt h))
  · rw [show m.log2+k+1=(m.log2+1)+k from by omega,Nat.pow_add]; exact Nat.mul_lt_mul_of_pos_right Nat.lt_log2_self (Nat.two_pow_pos k)
theorem zCD (neg:Bool) (mag:Nat) (place:Int) (K a:Nat) (hp:-1074≤place) (h:mag*2^(place+1074).toNat=K*2^a) (hK:4503599627370496≤K) (hK2:K<9007199254740992) (ha:a≤2045) :
    double.nearest neg mag place=double.word neg (a*4503599627370496+K):=by
  have e2:double.binade=4503599627370496:=by decide
  have e3:double.infRung=2047*4503599627370496:=by decide
  have e4:double.leastPlace = -1074:=by decide
  have hm:0<mag:=by
    rcases Nat.eq_zero_or_pos mag with h0 | h0
    · subst h0
      have:=Nat.two_pow_pos a
      have:=Nat.mul_pos (show 0<K by omega) this
      omega
    · exact h0
  have hlK:K.log2=52:=(Nat.log2_eq_iff (by omega)).2 ⟨by omega,by omega⟩
  have hlog:mag.log2+(place+1074).toNat=52+a:=by
    rw [← zAX mag _ hm,h,zAX K _ (by omega),hlK]
  unfold Format.nearest
  rw [if_neg (by omega),e2,e3,e4]
  have hlast:max (place+(mag.log2:Int) - (double.fractionBits:Int)) (-1074)=(a:Int) - 1074:=by
    have:(double.fractionBits:Int)=52:=rfl
    rw [this]; omega
  simp only [hlast]
  have hkept:Toward.even.cut neg (mag <<< (place - ((a:Int) - 1074)).toNat) (((a:Int) - 1074) - place).toNat=K:=by
    by_cases hc:place≤(a:Int) - 1074
    · rw [show (place - ((a:Int) - 1074)).toNat=0 from by omega,Nat.shiftLeft_zero]
      have hmk:mag=K*2^(((a:Int) - 1074) - place).toNat:=by
        have:a=(((a:Int) - 1074) - place).toNat+(place+1074).toNat:=by omega
        rw [this,Nat.pow_add,← Nat.mul_assoc] at h
        have h':=Nat.eq_of_mul_eq_mul_right (Nat.two_pow_pos _) h
        have e:((((a:Int) - 1074) - place).toNat+(place+1074).toNat)=a:=by omega
        simpa [e] using h'
      rw [hmk]
      exact zJ3 neg K _ (by omega)
    · rw [show (((a:Int) - 1074) - place).toNat=0 from by omega,Nat.shiftLeft_eq]
      have hmk:mag*2^(place - ((a:Int) - 1074)).toNat=K:=by
        have:(place+1074).toNat=(place - ((a:Int) - 1074)).toNat+a:=by omega
        rw [this,Nat.pow_add,← Nat.mul_assoc] at h
        exact Nat.eq_of_mul_eq_mul_right (Nat.two_pow_pos _) h
      rw [hmk]
      have:=zJ3 neg K 0 (by omega)
      simpa using this
  rw [hkept,show ((a:Int) - 1074 - -1074).toNat=a from by omega,Nat.min_eq_left (by omega)]
theorem zFJ (neg:Bool) (mag:Nat) (place:Int) (K a:Nat) (hp:-1074≤place) (h:mag*2^(place+1074).toNat=K*2^a) (hK:4503599627370496≤K) (hK2:K<9007199254740992) (ha:a≤2045) :
    ∃ m i,double.read (double.nearest neg mag place) = .number neg m i ∧ -1074≤i∧sv neg m i=sv neg mag place:=by
  rw [zCD neg mag place K a hp h hK hK2 ha]
  obtain ⟨m,i,h1,h2,_,_,h5⟩:=zBp neg a K ha (by omega) (.inl hK) (by omega)
  refine ⟨m,i,h1,h2,?_⟩
  unfold sv
  rw [zAn,zAn]
  congr 1
  have h6:m*2^(i+1074).toNat=mag*2^(place+1074).toNat:=by rw [h5,h]
  have h7:=congrArg (Nat.cast:Nat→Int) h6
  rw [Int.natCast_mul,Int.natCast_mul,Int.natCast_pow,Int.natCast_pow] at h7
  exact h7
theorem zIj (neg:Bool) (mag:Nat) (place:Int) (N c:Nat) (hp:-1074≤place) (h:mag*2^(place+1074).toNat=N*2^c) (hc:c=1074) (hN:N<9007199254740992) :
    ∃ m i,double.read (double.nearest neg mag place) = .number neg m i ∧ -1074≤i∧sv neg m i=sv neg mag place:=by
  by_cases h0:N=0
  · have hm:mag=0:=by
      rw [h0,Nat.zero_mul] at h
      rcases Nat.mul_eq_zero.1 h with h | h
      · exact h
      · exact absurd h (Nat.ne_of_gt (Nat.two_pow_pos _))
    subst hm
    obtain ⟨m,i,h1,h2,_,_,h5⟩:=zBp neg 0 0 (Nat.zero_le _) (Nat.zero_le _) (Or.inr (Eq.refl 0)) (by decide)
    refine ⟨m,i,?_,h2,?_⟩
    · unfold Format.nearest; rw [if_pos rfl]; simpa using h1
    · have:m=0:=by
        rw [Nat.zero_mul] at h5
        rcases Nat.mul_eq_zero.1 h5 with h | h
        · exact h
        · exact absurd h (Nat.ne_of_gt (Nat.two_pow_pos _))
      subst this
      unfold sv
      rw [zAn,zAn]; simp
  · have hl:N.log2≤52:=by
      have:N.log2<53:=(Nat.log2_lt h0).2 (by omega)
      omega
    have hp1:2^N.log2≤N:=Nat.log2_self_le h0
    have hp2:N<2^(N.log2+1):=Nat.lt_log2_self
    have q1:(2:Nat)^52=4503599627370496:=by decide
    refine zFJ neg mag place (N*2^(52 - N.log2)) (1074+N.log2 - 52) hp ?_ ?_ ?_ (by omega)
    · rw [h,Nat.mul_assoc,← Nat.pow_add]; congr 2; omega
    · rw [← q1,show 52=N.log2+(52 - N.log2) from by omega,Nat.pow_add]
      have e:N.log2+(52 - N.log2) - N.log2=52 - N.log2:=by omega
      rw [e]
      exact Nat.mul_le_mul_right _ hp1
    · have e:9007199254740992=2^(N.log2+1)*2^(52 - N.log2):=by
        rw [← Nat.pow_add,show N.log2+1+(52 - N.log2)=53 from by omega]
      rw [e]
      exact Nat.mul_lt_mul_of_pos_right hp2 (Nat.two_pow_pos _)
theorem zAT {b:Nat} {s:Bool} {m:Nat} {i:Int} (h:double.read b = .number s m i):-1074≤i∧i≤971∧m<9007199254740992:=by
  have e1:double.signWeight=9223372036854775808:=by decide
  have e2:double.binade=4503599627370496:=by decide
  have e3:double.infRung=2047*4503599627370496:=by decide
  have e4:double.leastPlace = -1074:=by decide
  unfold Format.read at h
  rw [e1,e2,e3,e4] at h
  dsimp only at h
  split at h
  · cases h; omega
  · split at h
    · cases h; omega
    · split at h <;> cases h
end Go.Proofs.YtllaekopaglolaaGreat
end
