/-
  The sizes of values together; a sketch's sum is near the reference's.
-/
import Derived.Test.YtllaekopaglolaaGreatHBG
import Derived.Test.YtllaekopaglolaaGreatHAK
import Derived.Test.YtllaekopaglolaaGreatHBE
import Derived.Deep.RegionHeld3
section
namespace Go.Proofs.YtllaekopaglolaaGreat
open Go.RowKit
open Ieee
set_option exponentiation.threshold 5000
theorem zT4 {q:Nat × Nat} (h:zAU q):∃ m x X,maxO q.1 (negF q.1)=some m∧fmul m (nf q.2)=some x∧FV x X∧∀ M:Rat,qv (((eI q).natAbs:Nat):Int)≤M → -(M / 9007199254740992)≤qv X - qv (((eI q).natAbs:Nat):Int)∧qv X - qv (((eI q).natAbs:Nat):Int)≤M / 9007199254740992:=by
  obtain ⟨hf0,hc⟩:=zAx h.lt h.fits
  obtain ⟨m,hm,hf⟩:=zDi hf0
  obtain ⟨x0,X,hx0,fx0,hX⟩:=zG2 h
  have h2:=h.c2
  have h1:=h.c1
  have hn:=zFq q.2 (by omega)
  obtain ⟨T,hT,hT0,-,-⟩:=zD9
  have hTi:(2:Int)^1074=((T:Nat):Int):=by rw [hT,Int.natCast_pow]; rfl
  have hz:(((vI q.1).natAbs:Nat):Int)*((q.2:Int)*2^1074)=(((eI q).natAbs*T:Nat):Int):=by
    unfold eI; rw [hTi,Int.natAbs_mul,Int.natAbs_natCast,Int.natCast_mul,Int.natCast_mul,Int.mul_assoc]
  have hb:=zI2 h
  have hlog:((((eI q).natAbs*T:Nat):Int)).natAbs.log2<3164:=by
    rw [Int.natAbs_natCast]
    refine zAg (Nat.lt_of_le_of_lt (Nat.mul_le_mul_right T hb) ?_) (by omega)
    rw [hT]
    have e:(2:Nat)^3164=2^1098*2^992*2^1074:=by rw [← Nat.pow_add,← Nat.pow_add]
    rw [e]
    refine Nat.mul_lt_mul_of_pos_right (Nat.mul_lt_mul_of_pos_left ?_ (Nat.two_pow_pos _)) (Nat.two_pow_pos _)
    exact Nat.lt_of_lt_of_le (show 100<2^7 by decide) (Nat.pow_le_pow_right (by decide) (by decide))
  obtain ⟨x,hx,fx⟩:=zCQ hf hn (by rw [hz]; exact hlog)
  rw [hz,zAj] at fx
  refine ⟨m,x,_,hm,hx,fx,fun M m2=>?_⟩
  have hlow:(eI q).natAbs=0∨2^1050≤(eI q).natAbs:=by
    have hv:(vI q.1).natAbs=0∨2^1050≤(vI q.1).natAbs:=by
      rcases hc with ⟨h0,-⟩ | ⟨-,g1,g2,g3⟩ | ⟨-,g1,g2,g3,g4,-⟩
      · left; rw [h0]; rfl
      · right; rw [g3,Int.natAbs_natCast]; exact (zBO (by omega) (by omega)).1
      · right; rw [g4,Int.natAbs_neg,Int.natAbs_natCast]; exact (zBO (by omega) (by omega)).1
    unfold eI
    rw [Int.natAbs_mul,Int.natAbs_natCast]
    rcases hv with hv | hv
    · left; rw [hv,Nat.zero_mul]
    · right
      have:=Nat.mul_le_mul hv h1
      rwa [Nat.mul_one] at this
  generalize (eI q).natAbs=n at hlow m2 ⊢
  rcases hlow with rfl | hn
  · rw [Nat.zero_mul,zCW]
    have e0:qv ((0:Nat):Int)=0:=by unfold qv; simp
    rw [e0] at m2 ⊢
    constructor <;> grind
  · have hbig:2^(1074+52)≤n*T:=by
      rw [hT]
      have:=Nat.mul_le_mul_right (2^1074) hn
      rw [← Nat.pow_add] at this
      exact Nat.le_trans (Nat.pow_le_pow_right (by decide) (by decide)) this
    obtain ⟨a,b⟩:=zCA 1074 (n*T) (.inr hbig)
    rw [← hT] at a b
    have a':rndT 1074 (n*T)*9007199254740992≤n*9007199254740993:=by
      refine Nat.le_of_mul_le_mul_right ?_ hT0
      rw [Nat.mul_right_comm,Nat.mul_right_comm n]; exact a
    have b':n*9007199254740991≤rndT 1074 (n*T)*9007199254740992:=by
      refine Nat.le_of_mul_le_mul_right ?_ hT0
      rw [Nat.mul_right_comm n,Nat.mul_right_comm (rndT 1074 (n*T))]; exact b
    have q1:=zA9 (Int.ofNat_le.2 a')
    have q2:=zA9 (Int.ofNat_le.2 b')
    have e:∀ m c:Nat,qv ((m*c:Nat):Int)=qv ((m:Nat):Int)*(c:Rat):=fun m c=>by
      unfold qv; rw [Int.natCast_mul,Rat.intCast_mul,Rat.intCast_natCast,Rat.intCast_natCast]; grind
    rw [e,e] at q1 q2
    have f1:((9007199254740992:Nat):Rat)=9007199254740992:=rfl
    have f2:((9007199254740993:Nat):Rat)=9007199254740993:=rfl
    have f3:((9007199254740991:Nat):Rat)=9007199254740991:=rfl
    rw [f1,f2] at q1
    rw [f1,f3] at q2
    generalize qv ((rndT 1074 (n*T):Nat):Int)=r at *
    generalize qv ((n:Nat):Int)=y at *
    constructor <;> grind
theorem zTN {M:Rat} {xs:Items} {l:Nat} (h3:NInv l (absI xs) M (xs.length:Nat)) {q:Nat × Nat} (hq:zAU q) (hM:qv (absI (xs++[q]))≤M) (hl:xs.length<900) :
    ∃ m x l',maxO q.1 (negF q.1)=some m∧fmul m (nf q.2)=some x∧fadd l x=some l'∧NInv l' (absI (xs++[q])) M ((xs++[q]).length:Nat):=by
  obtain ⟨m,x,X,hm,hx,fx,hX⟩:=zT4 hq
  have ea:absI (xs++[q])=absI xs+((eI q).natAbs:Int):=by rw [zC2]; show _+(_+0)=_; omega
  have hn:=zBk xs
  have m0:=h3.m0
  have b2:qv (((eI q).natAbs:Nat):Int)≤M:=by
    have h1:=zA9 (show (((eI q).natAbs:Nat):Int)≤absI (xs++[q]) by omega)
    grind
  have b1:-M≤qv (((eI q).natAbs:Nat):Int):=by
    have h1:=zA9 (show (0:Int)≤(((eI q).natAbs:Nat):Int) by omega)
    rw [zCq] at h1; grind
  have n1:-M≤qv (absI xs+(((eI q).natAbs:Nat):Int)):=by
    have h1:=zA9 (show (0:Int)≤absI xs+(((eI q).natAbs:Nat):Int) by omega)
    rw [zCq] at h1; grind
  have n2:qv (absI xs+(((eI q).natAbs:Nat):Int))≤M:=by rw [← ea]; exact hM
  obtain ⟨x1,x2⟩:=hX M b2
  have hk:((xs.length:Nat):Rat)+1≤1000:=by
    have:((xs.length:Nat):Rat)≤((900:Nat):Rat):=Rat.natCast_le_natCast.2 (by omega)
    have e:((900:Nat):Rat)=900:=rfl
    rw [e] at this; grind
  obtain ⟨l',hl',i2⟩:=zJB h3 fx x1 x2 b1 b2 n1 n2 hk
  have el:(((xs++[q]).length:Nat):Rat)=((xs.length:Nat):Rat)+1:=by rw [List.length_append]; exact Rat.natCast_add _ _
  exact ⟨m,x,l',hm,hx,hl',by rw [ea,el]; exact i2⟩
theorem zU0 {M:Rat} (h0:0≤M) (h1:M≤1099511627776):NInv 0 (absI []) M (([]:Items).length:Nat):=zN6 h0 h1
theorem zUM:∃ C:Nat,FV 4472406533629990549 (C:Int)∧(999:Rat) / 1000000000000≤qv (C:Int)∧qv (C:Int)≤1:=by
  have hup:rvN 4472406533629990549≤1*2^1074:=by decide +kernel
  have hup2:=zA9 (Int.ofNat_le.2 hup)
  rw [Int.natCast_mul,Int.natCast_pow] at hup2
  have e0:qv (((1:Nat):Int)*((2:Nat):Int)^1074)=1:=by rw [show ((2:Nat):Int)=2 from rfl,zCI _ _ rfl]; rfl
  rw [e0] at hup2
  refine ⟨rvN 4472406533629990549,zDP (by decide) (by decide),?_,hup2⟩
  have h:999*2^1074≤1000000000000*rvN 4472406533629990549:=by decide +kernel
  have h2:=zA9 (Int.ofNat_le.2 h)
  rw [Int.natCast_mul,Int.natCast_mul,Int.natCast_pow] at h2
  have e1:qv (((999:Nat):Int)*((2:Nat):Int)^1074)=999:=by rw [show ((2:Nat):Int)=2 from rfl,zCI _ _ rfl]; rfl
  rw [e1] at h2
  have e2:qv (((1000000000000:Nat):Int)*((rvN 4472406533629990549:Nat):Int))=1000000000000*qv ((rvN 4472406533629990549:Nat):Int):=by
    have e3:((((1000000000000:Nat):Int)):Rat)=1000000000000:=rfl
    unfold qv; rw [Rat.intCast_mul,e3]; grind
  rw [e2] at h2
  generalize qv ((rvN 4472406533629990549:Nat):Int)=r at *
  grind
theorem zXn {z:Int} {b:Rat} (h1:-b≤qv z) (h2:qv z≤b):qv ((z.natAbs:Nat):Int)≤b:=by
  rcases Int.le_total 0 z with h | h
  · rw [Int.natAbs_of_nonneg h]; exact h2
  · rw [Int.ofNat_natAbs_of_nonpos h,zCr]; grind
theorem zRN {B B2 n:Rat} {s k l z x part P:Nat} {E A:Int} (h1:KInv s k E B2 n) (hB2:B2≤4*B) (h2:NInv l E B n) (h3:NInv z A B n) (hA:qv A=B) (hn:n≤120) (hB:B≤1099511627776) (hx:fadd s k=some x) (fp:FV part (P:Int)) (p0:1 / 100≤qv (P:Int)) (p1:qv (P:Int)≤1) :
    ∃ d m p1 p2,fsub x l=some d∧maxO d (negF d)=some m∧fmul z part=some p1∧fadd p1 4472406533629990549=some p2∧fle m p2=true:=by
  obtain ⟨-,-,-,-,-,-,S,C,fs,fk,s1,s2,c3,c4⟩:=h1
  obtain ⟨m0,m1,k0,k1,e1,e2,L,fl,l1,l2⟩:=h2
  obtain ⟨-,-,-,-,-,-,Z,fz,z1,z2⟩:=h3
  have hnB:n*B≤120*B:=Rat.mul_le_mul_of_nonneg_right hn m0
  have hnB0:0≤n*B:=Rat.mul_nonneg k0 m0
  have hnB2:n*B2≤n*(4*B):=Rat.mul_le_mul_of_nonneg_left hB2 k0
  obtain ⟨x',X,hx',fx,x1,x2⟩:=zQ6 fs fk (8*B) (by grind) (by grind) (by grind)
  obtain rfl:x'=x:=Option.some.inj (hx'.symm.trans hx)
  obtain ⟨d,D,hd,fd,d1,d2⟩:=zEj fx fl (B / 41000000) (by grind) (by grind) (by grind)
  obtain ⟨m,hm,fm⟩:=zDi fd
  have hD:qv ((D.natAbs:Nat):Int)≤B / 40000000:=zXn (by grind) (by grind)
  have hZ0:0≤Z:=by
    rcases Int.lt_trichotomy Z 0 with h | h | h
    · have h5:Z ≤ -1:=by omega
      have h6:=zVl h
      rw [zCq] at h6
      exfalso; grind
    · omega
    · omega
  obtain ⟨Zn,rfl⟩:=Int.eq_ofNat_of_zero_le hZ0
  have zP1:qv ((Zn:Nat):Int)≤2*B:=by grind
  have zP2:99 / 100*B≤qv ((Zn:Nat):Int):=by grind
  have zP0:0≤qv ((Zn:Nat):Int):=by grind
  have hprod0:0≤qv ((Zn:Nat):Int)*qv ((P:Nat):Int):=Rat.mul_nonneg zP0 (by grind)
  have hprod1:qv ((Zn:Nat):Int)*qv ((P:Nat):Int)≤qv ((Zn:Nat):Int)*1:=Rat.mul_le_mul_of_nonneg_left p1 zP0
  have hprod2:qv ((Zn:Nat):Int)*(1 / 100)≤qv ((Zn:Nat):Int)*qv ((P:Nat):Int):=Rat.mul_le_mul_of_nonneg_left p0 zP0
  have eB:=zVb 42
  have eB2:((2^42:Nat):Rat)=4398046511104:=by decide
  rw [eB2] at eB
  obtain ⟨q,hq,fq,q1,q2⟩:=zGM (1021+42) fz fp (by omega) (by rw [eB]; grind) (by rw [eB]; grind)
  rw [eB] at q1 q2
  rw [← Int.natCast_mul,zAj] at fq q1 q2
  obtain ⟨c,fc,hc,c1⟩:=zUM
  obtain ⟨Qn,hQn⟩:∃ Qn,Qn=rndT 1074 (Zn*P):=⟨_,rfl⟩
  rw [← hQn] at fq q1 q2
  have hQ0:0≤qv ((Qn:Nat):Int):=by have:=zA9 (show (0:Int)≤((Qn:Nat):Int) by omega); rwa [zCq] at this
  obtain ⟨r,hr,fr⟩:=zEv fq fc (by
    refine zKT (B:=8796093022208) ?_ ?_ (by grind)
    · rw [zA8]; grind
    · rw [zA8]; grind)
  rw [← Int.natCast_add,zAj] at fr
  have hR:=(zCA 0 (Qn+c) (.inl rfl)).2
  rw [Nat.pow_zero,Nat.mul_one] at hR
  have e:∀ m c:Nat,qv ((m*c:Nat):Int)=qv ((m:Nat):Int)*(c:Rat):=fun m c=>by
    unfold qv; rw [Int.natCast_mul,Rat.intCast_mul,Rat.intCast_natCast,Rat.intCast_natCast]; grind
  have q9:=zA9 (Int.ofNat_le.2 hR)
  rw [e,e] at q9
  have f1:((9007199254740992:Nat):Rat)=9007199254740992:=rfl
  have f3:((9007199254740991:Nat):Rat)=9007199254740991:=rfl
  rw [f1,f3,Int.natCast_add,zA8] at q9
  refine ⟨d,m,q,r,hd,hm,hq,hr,?_⟩
  rw [zGN fm fr,decide_eq_true_eq]
  rcases Int.lt_or_le ((rndT 0 (Qn+c):Nat):Int) ((D.natAbs:Nat):Int) with hlt | hge
  · exfalso
    have h9:=zVl hlt
    generalize qv ((rndT 0 (Qn+c):Nat):Int)=R at *
    generalize qv ((D.natAbs:Nat):Int)=Da at *
    generalize qv ((Qn:Nat):Int)=Qv at *
    generalize qv ((c:Nat):Int)=cv at *
    by_cases hsm:B≤1 / 32
    · grind
    · grind
  · exact hge
end Go.Proofs.YtllaekopaglolaaGreat
end
/-
  spec.Near of two floats,by their values.
-/
section
namespace Go.Proofs.YtllaekopaglolaaGreat
open Go.RowKit
open Ieee
set_option exponentiation.threshold 5000
theorem zN9 {V v part P:Nat} {X Y:Int} (hV:FV V X) (hv:FV v Y) (hpt:FV part (P:Int)) (hX:X.natAbs≤2^1099) (hY:Y.natAbs≤2^1099) (hP:P≤2^1075) :
    zDy V v part=some (decide (rndT 0 (X - Y).natAbs≤rndT 0 (rndT 1074 (P*Y.natAbs)+rvN 4427486594234968593))):=by
  have hD:(X - Y).natAbs<2^1101:=by
    have e:(2:Nat)^1101=2^1099*4:=by rw [show (4:Nat)=2^2 from rfl,← Nat.pow_add]
    rw [e]
    generalize (2:Nat)^1099=Z at *
    omega
  obtain ⟨d,hd,fd⟩:=zDG hV hv (Nat.lt_trans (zAg hD (by omega)) (by omega))
  obtain ⟨m,hm,fm⟩:=zDi fd
  obtain ⟨n,hn,fn⟩:=zDi hv
  rw [zNr] at fm
  have hPY:P*Y.natAbs≤2^2174:=by
    have:=Nat.mul_le_mul hP hY
    rwa [← Nat.pow_add] at this
  obtain ⟨q,hq,fq⟩:=zCQ hpt fn (by
    rw [← Int.natCast_mul,Int.natAbs_natCast]
    exact Nat.lt_trans (zAg (k:=2175) (Nat.lt_of_le_of_lt hPY (Nat.pow_lt_pow_right (by omega) (by omega))) (by omega)) (by omega))
  rw [← Int.natCast_mul,zAj] at fq
  have fc:=zDP (x:=4427486594234968593) (by decide) (by decide)
  have hc:rvN 4427486594234968593≤2^1074:=by decide +kernel
  have hQ:rndT 1074 (P*Y.natAbs)≤2^1101:=by
    have h1:=(zD7 1074 (P*Y.natAbs) 2122 (Nat.lt_of_le_of_lt hPY (Nat.pow_lt_pow_right (by omega) (by omega))) (by omega)).1
    have e1:(2:Nat)^2174=2^1074*2^1100:=by rw [← Nat.pow_add]
    have e2:(2:Nat)^2122=2^1074*2^1048:=by rw [← Nat.pow_add]
    have e3:(2:Nat)^1101=2*2^1100:=by rw [Nat.mul_comm,← Nat.pow_succ]
    have e4:(2:Nat)^1048≤2^1100:=Nat.pow_le_pow_right (by omega) (by omega)
    rw [e2] at h1
    rw [e1] at hPY
    rw [e3]
    have hT:=Nat.two_pow_pos 1074
    generalize rndT 1074 (P*Y.natAbs)=r at *
    generalize P*Y.natAbs=z at *
    generalize (2:Nat)^1074=T at *
    generalize (2:Nat)^1100=A at *
    generalize (2:Nat)^1048=B at *
    have h4:T*B≤T*A:=Nat.mul_le_mul_left _ e4
    have h5:r*T≤(2*A)*T:=by
      have:(2*A)*T=2*(T*A):=by ac_rfl
      rw [this]; omega
    exact Nat.le_of_mul_le_mul_right h5 hT
  obtain ⟨r,hr,fr⟩:=zEv fq fc (by
    rw [← Int.natCast_add,Int.natAbs_natCast]
    refine Nat.lt_trans (zAg (k:=1103) ?_ (by omega)) (by omega)
    have e3:(2:Nat)^1103=2^1101*4:=by rw [show (4:Nat)=2^2 from rfl,← Nat.pow_add]
    have e4:(2:Nat)^1074≤2^1101:=Nat.pow_le_pow_right (by omega) (by omega)
    have e5:=Nat.two_pow_pos 1101
    rw [e3]
    generalize (2:Nat)^1101=A at *
    generalize (2:Nat)^1074=T at *
    omega)
  rw [← Int.natCast_add,zAj] at fr
  unfold zDy
  show (floatBits .sub .f64 V v).bind _=_
  rw [hd]
  show (maxO d (negF d)).bind _=_
  rw [hm]
  show (maxO v (negF v)).bind _=_
  rw [hn]
  show (floatBits .mul .f64 part n).bind _=_
  rw [hq]
  show (floatBits .add .f64 q 4427486594234968593).bind _=_
  rw [hr]
  show some (fle m r)=_
  rw [zGN fm fr]
  congr 1
  apply decide_eq_decide.2
  exact Int.ofNat_le
theorem zHD {V v part P:Nat} {X:Int} (hV:FV V X) (hv:FV v X) (hpt:FV part (P:Int)) (hX:X.natAbs≤2^1099) (hP:P≤2^1075):zDy V v part=some true:=by
  rw [zN9 hV hv hpt hX hX hP,Int.sub_self,Int.natAbs_zero,zCW,decide_eq_true (Nat.zero_le _)]
theorem zRy {p:Nat} (h:p≤50):p*10000000001≤500000000050:=by omega
theorem zTl {X Y:Int} {p Z:Nat} (hE:(X - Y).natAbs*1000000000000≤p*10000000001*Y.natAbs) (h5:p*10000000001*Y.natAbs≤500000000050*Y.natAbs) (hY:Y.natAbs≤Z):X.natAbs≤Z*2:=by omega
theorem zUL {V v part P p:Nat} {X Y:Int} (hV:FV V X) (hv:FV v Y) (hpt:FV part (P:Int)) (hE:(X - Y).natAbs*1000000000000≤p*10000000001*Y.natAbs)
    (hP:p*10000000005*2^1074≤1000000000000*P) (hP2:P≤2^1074) (hY:2^1050≤Y.natAbs) (hY2:Y.natAbs≤2^1098) (p1:1≤p) (p2:p≤50):zDy V v part=some true:=by
  obtain ⟨T,hT,hT0,e1,e2⟩:=zD9
  have hX:X.natAbs≤2^1099:=by
    have e:(2:Nat)^1099=2^1098*2:=by rw [← Nat.pow_succ]
    rw [e]
    exact zTl hE (Nat.mul_le_mul_right _ (zRy p2)) hY2
  have hY3:Y.natAbs≤2^1099:=Nat.le_trans hY2 (Nat.pow_le_pow_right (by decide) (by decide))
  have hP3:P≤2^1075:=Nat.le_trans hP2 (Nat.pow_le_pow_right (by decide) (by decide))
  rw [zN9 hV hv hpt hX hY3 hP3]
  clear hY3 hP3 hX
  have hPT:T≤1000000000000*P:=by
    rw [← hT] at hP
    have:1*T≤p*10000000005*T:=Nat.mul_le_mul_right T (by omega)
    omega
  have hlow:2^(1074+52)≤P*Y.natAbs:=by
    have a:T*2^1050≤1000000000000*(P*Y.natAbs):=by have:=Nat.mul_le_mul hPT hY; rwa [Nat.mul_assoc] at this
    have b:2^(1074+52)*1000000000000≤T*2^1050:=by
      rw [hT,Nat.pow_add,Nat.mul_assoc]
      refine Nat.mul_le_mul_left _ ?_
      have:(2:Nat)^1050=2^52*2^998:=by rw [← Nat.pow_add]
      rw [this]
      refine Nat.mul_le_mul_left _ ?_
      have:(2:Nat)^40≤2^998:=Nat.pow_le_pow_right (by decide) (by decide)
      exact Nat.le_trans (by decide) this
    have c:2^(1074+52)*1000000000000≤P*Y.natAbs*1000000000000:=by
      rw [Nat.mul_comm (P*Y.natAbs)]; exact Nat.le_trans b a
    exact Nat.le_of_mul_le_mul_right c (by decide)
  have hQ:=zCA 1074 (P*Y.natAbs) (.inr hlow)
  rw [← hT] at hQ hP
  have hR:=zCA 0 (rndT 1074 (P*Y.natAbs)+rvN 4427486594234968593) (.inl rfl)
  rw [Nat.pow_zero,Nat.mul_one] at hR
  have hD:=zCA 0 (X - Y).natAbs (.inl rfl)
  rw [Nat.pow_zero,Nat.mul_one] at hD
  have hfin:=zN8 Y.natAbs P p T _ _ _ _ hD.1 hE hQ.2 (Nat.le_trans (Nat.mul_le_mul_right _ (Nat.le_add_right _ _)) hR.2) hP hT0
  rw [decide_eq_true hfin]
end Go.Proofs.YtllaekopaglolaaGreat
end
/-
  spec.first: the value of a rank.
-/
section
namespace Go.Proofs.YtllaekopaglolaaGreat
open Go.RowKit
open Ieee
set_option exponentiation.threshold 5000
def valF (r:Nat):Nat→Items→Nat
  | _,[]=>0
  | acc,p :: t=>if fgt2 (nf (acc+p.2)) r||t.isEmpty then p.1 else valF r (acc+p.2) t
def zVH (r:Nat) (xs:Items) (w wr:World) (v i:Value):Prop :=
  ∃ k,k≤xs.length∧i = .int .i64 (k:Int)∧v = .float .f64 (nf (totC (xs.take k)))∧Below w.heap.size w wr ∧
    Hid ((k<xs.length→valF r 0 xs=valF r (totC (xs.take k)) (xs.drop k))∧(k=xs.length→∀ h:xs.length - 1<xs.length,valF r 0 xs=xs[xs.length - 1].1))
theorem zGb (n:Nat) (h:n<1000000):∃ a,FV (nf n) a∧0≤qv a∧qv a≤1000000:=by
  have e:qv ((n:Int)*2^1074)=((n:Nat):Rat):=by rw [zCI _ _ rfl]; exact Rat.intCast_natCast n
  have h1:((n:Nat):Rat)≤((1000000:Nat):Rat):=Rat.natCast_le_natCast.2 (by omega)
  have h2:((0:Nat):Rat)≤((n:Nat):Rat):=Rat.natCast_le_natCast.2 (by omega)
  refine ⟨_,zFq n (by omega),?_,?_⟩
  · rw [e]; exact h2
  · rw [e]; exact h1
set_option maxRecDepth 100000 in
set_option maxHeartbeats 800000 in
theorem zJv (ao:Option Addr) (cp r:Nat) (R:Int) (xs:Items) (w:World) (hl:LieR w ao (fi xs)) (h0:0<xs.length) (hn:xs.length≤2147483647) (ht:totC xs<1000000) (hr:FV r R) (hr1:-1000000≤qv R) (hr2:qv R≤1000000) :
    Calls Tryz.prog 39 #[.slice ao xs.length cp,.float .f64 r] w fun e w'=>(∃ b:Bool,e = .returned (.tuple #[.float .f64 (valF r 0 xs),.bool b]))∧Below w.heap.size w w':=by
  have HL:=Lib.hid hl; clear hl
  have HT:=Lib.hid ht; clear ht
  have HR:=Lib.hid (And.intro hr (And.intro hr1 hr2)); clear hr hr1 hr2
  go_enter Tryz.func39,Tryz.ntmps39
  go_wp2
  go_loopw [6,11] (fun v i wr=>zVH r xs w wr v i) (fun _ i _=>xs.length - (intOf i).toNat)
  case atStart=>exact ⟨0,by omega,rfl,by rw [List.take_zero,totC,zAp],Below.refl _ _,fun _=>rfl,fun h=>by omega⟩
  case round =>
    obtain ⟨k,hk,rfl,rfl,hb,HK⟩:=hrel
    rcases HL.out.later hb with h0' | ⟨g,off,rfl,hcell⟩
    · have:=congrArg List.length h0'; rw [zAK,List.length_nil] at this; omega
    by_cases hlt:k<xs.length
    · obtain ⟨c0,c1⟩:=hcell k (by rw [zAK]; exact hlt)
      rw [zEg] at c0 c1
      dsimp only at c0 c1
      have htk:totC (xs.take (k+1))<1000000:=by have:=zE2 xs (k+1); have:=HT.out; omega
      have htk0:totC (xs.take k)<1000000:=by have:=zE2 xs k; have:=HT.out; omega
      have hadd:=fun w:World=>run_float_arith (P:=Tryz.prog) w .add 29 .f64 _ _ _ (zAz (totC (xs.take k)) xs[k].2 (by have:=zCV xs k hlt; omega))
      have hd:valF r (totC (xs.take k)) (xs.drop k)=if fgt2 (nf (totC (xs.take (k+1)))) r||(xs.drop (k+1)).isEmpty then xs[k].1 else valF r (totC (xs.take (k+1))) (xs.drop (k+1)):=by
        rw [List.drop_eq_getElem_cons hlt,valF,zCV xs k hlt]
      have HD:=Lib.hid hd
      clear hd
      rw [← zCV xs k hlt] at hadd
      obtain ⟨Y,fy,y1,y2⟩:=zGb _ htk
      obtain ⟨X2,fx2,x1,x2⟩:=zGb xs[k].2 (by have:=zCV xs k hlt; omega)
      obtain ⟨b,hbb⟩:∃ b,b=nf xs[k].2:=⟨_,rfl⟩
      obtain ⟨x,hx⟩:∃ x,x=xs[k].1:=⟨_,rfl⟩
      rw [← hbb] at c1 hadd fx2
      rw [← hx] at c0
      have HX:=Lib.hid hx
      have HB:=Lib.hid hb
      have hz:=hb.size
      clear hbb hx hb hcell
      obtain ⟨y,hy⟩:∃ y,y=nf (totC (xs.take (k+1))):=⟨_,rfl⟩
      rw [← hy] at hadd fy
      have HY:=Lib.hid hy
      obtain ⟨fr,r1,r2⟩:=HR.out
      obtain ⟨d1,-,hd1,-⟩:=zEj fy fr 4000000 (by grind) (by grind) (by grind)
      obtain ⟨y0,Y0,hy0,fy0,w1,w2⟩:=zEj fy fx2 4000000 (by grind) (by grind) (by grind)
      obtain ⟨d2,-,hd2,-⟩:=zEj fr fy0 9000000 (by grind) (by grind) (by grind)
      have q1:=fun w:World=>run_float_arith (P:=Tryz.prog) w .sub 29 .f64 _ _ _ hd1
      have q2:=fun w:World=>run_float_arith (P:=Tryz.prog) w .sub 29 .f64 _ _ _ hd2
      have q3:=fun w:World=>run_float_arith (P:=Tryz.prog) w .sub 29 .f64 _ _ _ hy0
      clear hy hy0 fy fy0 fx2 y1 y2 x1 x2 w1 w2 hd1 hd2 fr r1 r2 htk htk0
      cases hf:(FloatKind.f64.format.order y r == some .gt)
      · have hrel':Hid ((k+1<xs.length→valF r 0 xs=valF r (totC (xs.take (k+1))) (xs.drop (k+1)))∧(k+1=xs.length→∀ h:xs.length - 1<xs.length,valF r 0 xs=xs[xs.length - 1].1)):=by
          have hf':fgt2 y r=false:=hf
          have h1:=HK.out.1 hlt
          rw [HD.out,← HY.out,hf',Bool.false_or] at h1
          refine ⟨fun h=>?_,fun h hl=>?_⟩
          · rw [h1,if_neg (by simp; omega)]
          · rw [h1,if_pos (by simp; omega)]
            have:k=xs.length - 1:=by omega
            subst this
            rfl
        clear HK HD HX
        go_wp2
        go_roundw
        case rel=>exact ⟨k+1,by omega,by go_num,by rw [HY.out],HB.out.alloc hz _,hrel'.out⟩
        case measure=>simp [intOf]; omega
      · have hres:valF r 0 xs=x:=by
          have hf':fgt2 y r=true:=hf
          have h1:=HK.out.1 hlt
          rw [HD.out,← HY.out,hf',Bool.true_or,if_pos rfl] at h1
          rw [h1,HX.out]
        have HRR:=Lib.hid hres
        clear HK HD HX HY hres
        cases e1:(FloatKind.f64.format.order d1 4517329193108106637 == some .gt) <;> cases e2:(FloatKind.f64.format.order d2 4517329193108106637 == some .gt) <;> cases e3:(FloatKind.f64.format.order r y0 == some .eq) <;> cases e4:(FloatKind.f64.format.order r 0 == some .lt)
        all_goals
          go_wp2
          go_ret2
          exact ⟨⟨_,by rw [HRR.out]; rfl⟩,HB.out.alloc hz _⟩
    · obtain rfl:k=xs.length:=by omega
      obtain ⟨m,hm⟩:∃ m,xs.length=m+1:=⟨xs.length - 1,by omega⟩
      obtain ⟨c0,c1⟩:=hcell m (by rw [zAK]; omega)
      rw [zEg] at c0 c1
      dsimp only at c0 c1
      have hres:valF r 0 xs=xs[m].1:=by
        have:=HK.out.2 rfl (by omega)
        rw [this]
        have:xs.length - 1=m:=by omega
        simp only [this]
      have HB:=Lib.hid hb
      obtain ⟨x,hx⟩:∃ x,x=xs[m].1:=⟨_,rfl⟩
      rw [← hx] at c0 hres
      have HR:=Lib.hid hres
      have hmb:m<2147483647:=by omega
      clear hx hb hcell HK c1 hlt HL hres
      rw [hm]
      have e1:(((m+1:Nat):Int) - 1)=(m:Int):=by omega
      have HM:=Lib.hid hm
      clear hm
      go_wp2
      go_ret2
      exact ⟨⟨true,by rw [HR.out]; rfl⟩,HB.out⟩
end Go.Proofs.YtllaekopaglolaaGreat
end
/-
  What a sketch without its summary is asked: its count; the value at a quantile.
-/
section
namespace Go.Proofs.YtllaekopaglolaaGreat
open Go.RowKit
structure Dd {kind:Int} (K:zAD kind) (tP t:TypeId) (most:Int) (g off mult mn mx:Nat) (ps ns:Bins) (z:Nat) (SP SN:Nat→Prop) (pd pm pp pn:Nat) (w:World):Prop where
  bd:w.heap[pd]?=some (.cells #[.iface tP (.pointer (some ⟨pm,0,none⟩)),.iface K.T (.pointer (some ⟨pp,0,none⟩)),.iface K.T (.pointer (some ⟨pn,0,none⟩)),.float .f64 (nf z)] 108 (0,0))
  bm:Map5 t w pm g off mult mn mx
  sp:K.St most ps SP pp w
  sn:K.St most ns SN pn w
  dj:∀ b,SP b→¬ SN b
  own:∀ b,SP b∨SN b→b≠pd∧b≠pm
section
variable {kind:Int} {K:zAD kind} {tP t:TypeId} {most:Int} {g off mult mn mx:Nat} {ps ns:Bins} {z:Nat} {SP SN:Nat→Prop} {pd pm pp pn:Nat} {w w':World}
theorem Dd.cells (h:Dd K tP t most g off mult mn mx ps ns z SP SN pd pm pp pn w):w.cell? ⟨pd,0,none⟩=some (.iface tP (.pointer (some ⟨pm,0,none⟩)))∧w.cell? ⟨pd,1,none⟩=some (.iface K.T (.pointer (some ⟨pp,0,none⟩)))∧w.cell? ⟨pd,2,none⟩=some (.iface K.T (.pointer (some ⟨pn,0,none⟩)))∧w.cell? ⟨pd,3,none⟩=some (.float .f64 (nf z)) :=
  ⟨cell_of_row _ _ 0 _ _ _ h.bd,cell_of_row _ _ 1 _ _ _ h.bd,cell_of_row _ _ 2 _ _ _ h.bd,cell_of_row _ _ 3 _ _ _ h.bd⟩
theorem Dd.drewN (h:Dd K tP t most g off mult mn mx ps ns z SP SN pd pm pp pn w) (n:Nat):Dd K tP t most g off mult mn mx ps ns z SP SN pd pm pp pn (w.drewN n) :=
  ⟨h.bd,h.bm,K.fr most _ SP pp (fun _=>False) w _ h.sp ((Fr.refl _ w).drewN n) (fun _ _ h=>h),K.fr most _ SN pn (fun _=>False) w _ h.sn ((Fr.refl _ w).drewN n) (fun _ _ h=>h),h.dj,h.own⟩
theorem Dd.keyP {S':Nat→Prop} (h:Dd K tP t most g off mult mn mx ps ns z SP SN pd pm pp pn w) (hs:K.St most ps S' pp w') (hf:Fr SP w w') (hS:∀ b,S' b→SP b∨w.heap.size≤b):Dd K tP t most g off mult mn mx ps ns z S' SN pd pm pp pn w':=by
  have ltn:=K.lt most _ SN pn w h.sn
  have l1:=lt_of_block h.bd
  have l2:=lt_of_block h.bm
  refine ⟨hf.heap h.bd (fun hb=>(h.own _ (.inl hb)).1 rfl),hf.heap h.bm (fun hb=>(h.own _ (.inl hb)).2 rfl),hs,K.fr most _ SN pn _ w w' h.sn hf (fun b hb hh=>h.dj b hh hb),fun b hb hh=>?_,fun b hb=>?_⟩
  · rcases hS b hb with h9 | h9
    · exact h.dj b h9 hh
    · have:=ltn b hh; omega
  · rcases hb with hb | hb
    · rcases hS b hb with h9 | h9
      · exact h.own b (.inl h9)
      · omega
    · exact h.own b (.inr hb)
theorem Dd.keyN {S':Nat→Prop} (h:Dd K tP t most g off mult mn mx ps ns z SP SN pd pm pp pn w) (hs:K.St most ns S' pn w') (hf:Fr SN w w') (hS:∀ b,S' b→SN b∨w.heap.size≤b):Dd K tP t most g off mult mn mx ps ns z SP S' pd pm pp pn w':=by
  have ltp:=K.lt most _ SP pp w h.sp
  have l1:=lt_of_block h.bd
  have l2:=lt_of_block h.bm
  refine ⟨hf.heap h.bd (fun hb=>(h.own _ (.inr hb)).1 rfl),hf.heap h.bm (fun hb=>(h.own _ (.inr hb)).2 rfl),K.fr most _ SP pp _ w w' h.sp hf (fun b hb hh=>h.dj b hb hh),hs,fun b hb hh=>?_,fun b hb=>?_⟩
  · rcases hS b hh with h9 | h9
    · exact h.dj b hb h9
    · have:=ltp b hb; omega
  · rcases hb with hb | hb
    · exact h.own b (.inl hb)
    · rcases hS b hb with h9 | h9
      · exact h.own b (.inr h9)
      · omega
end
section
variable {kind mk:Int} {K:zAD kind} {of_:Nat→Option (Nat × Nat × Nat × Nat × Nat)} {acc:Nat→Option Nat} {idx:Nat→Nat→Nat→Option Int} {lower:Nat→Nat→Int→Option Nat} {value:Nat→Nat→Nat→Int→Option Nat} (M:zBK mk of_ acc idx lower value)
variable {most:Int} {g off mult mn mx:Nat} {ps ns:Bins} {z:Nat} {SP SN:Nat→Prop} {pd pm pp pn:Nat} {w:World}
set_option maxRecDepth 100000 in
set_option maxHeartbeats 1000000 in
theorem zHh (Q:zCJ K) {tP t:TypeId} (h:Dd K tP t most g off mult mn mx ps ns z SP SN pd pm pp pn w) (hp:Few kind most ps) (hn:Few kind most ns) (hz:z<1000000) :
    Calls Tryz.prog 78 #[.pointer (some ⟨pd,0,none⟩)] w fun e w'=>e = .returned (.float .f64 (nf (z+tot ps+tot ns)))∧Dd K tP t most g off mult mn mx ps ns z SP SN pd pm pp pn w'∧Fr (fun b=>SP b∨SN b) w w':=by
  obtain ⟨-,d1,d2,d3⟩:=h.cells
  have ht1:=hp.tot
  have ht2:=hn.tot
  have q1:=fun w:World=>run_float_arith (P:=Tryz.prog) w .add 29 .f64 _ _ _ (zAz z (tot ps) (by omega))
  have q2:=fun w:World=>run_float_arith (P:=Tryz.prog) w .add 29 .f64 _ _ _ (zAz (z+tot ps) (tot ns) (by omega))
  have CP:=Q.cTot most ps SP pp w.drew (h.drewN 1).sp hp
  have HC:∀ w',Dd K tP t most g off mult mn mx ps ns z SP SN pd pm pp pn w'∧Fr (fun b=>SP b∨SN b) w w'→(w'.cell? ⟨pd,1,none⟩=some (.iface K.T (.pointer (some ⟨pp,0,none⟩)))∧w'.cell? ⟨pd,2,none⟩=some (.iface K.T (.pointer (some ⟨pn,0,none⟩)))∧w'.cell? ⟨pd,3,none⟩=some (.float .f64 (nf z)))∧Dd K tP t most g off mult mn mx ps ns z SP SN pd pm pp pn w'∧Fr (fun b=>SP b∨SN b) w w' :=
    fun w' h'=>⟨⟨h'.1.cells.2.1,h'.1.cells.2.2.1,h'.1.cells.2.2.2⟩,h'⟩
  have hs0:=HC w.drew ⟨h.drewN 1,(Fr.refl _ w).drew⟩
  have HD1:=fun w' (hk:zHr K most ps SP pp w.drew w')=>HC w' ⟨(h.drewN 1).keyP hk.1 hk.2 (fun _ hb=>.inl hb),((Fr.refl (fun b=>SP b∨SN b) w).drew).trans hk.2 (fun _ _ h=>h) (fun _ _ h=>.inl h)⟩
  have HD2:=fun w1 (h1:Dd K tP t most g off mult mn mx ps ns z SP SN pd pm pp pn w1∧Fr (fun b=>SP b∨SN b) w w1) w' (hk:zHr K most ns SN pn w1 w')=>HC w' ⟨h1.1.keyN hk.1 hk.2 (fun _ hb=>.inl hb),h1.2.trans hk.2 (fun _ _ h=>h) (fun _ _ h=>.inr h)⟩
  clear HC
  have CN:∀ w',Dd K tP t most g off mult mn mx ps ns z SP SN pd pm pp pn w'→Calls Tryz.prog Q.fTot #[.pointer (some ⟨pn,0,none⟩)] w' fun e w''=>e = .returned (.float .f64 (nf (tot ns)))∧zHr K most ns SN pn w' w'':=fun w' h'=>Q.cTot most ns SN pn w' h'.sn hn
  have m1:=Q.mTot pp
  have m2:=Q.mTot pn
  have e1:=Q.eTot
  obtain ⟨nz,hnz⟩:∃ y,y=nf z:=⟨_,rfl⟩
  obtain ⟨np,hnp⟩:∃ y,y=nf (tot ps):=⟨_,rfl⟩
  obtain ⟨nn,hnn⟩:∃ y,y=nf (tot ns):=⟨_,rfl⟩
  obtain ⟨n1,hn1⟩:∃ y,y=nf (z+tot ps):=⟨_,rfl⟩
  obtain ⟨n2,hn2⟩:∃ y,y=nf (z+tot ps+tot ns):=⟨_,rfl⟩
  rw [← hnz,← hnp,← hn1] at q1
  rw [← hn1,← hnn,← hn2] at q2
  rw [← hnz] at d3 hs0 HD1 HD2
  rw [← hnp] at CP
  rw [← hnn] at CN
  rw [← hn2]
  clear h hp hn hz ht1 ht2 hnz hnp hnn hn1 hn2
  go_enter Tryz.func78,Tryz.ntmps78
  go_wp2_with fail
  go_region_held3 (fun w'=>(w'.cell? ⟨pd,1,none⟩=some (.iface K.T (.pointer (some ⟨pp,0,none⟩)))∧w'.cell? ⟨pd,2,none⟩=some (.iface K.T (.pointer (some ⟨pn,0,none⟩)))∧w'.cell? ⟨pd,3,none⟩=some (.float .f64 nz))∧Dd K tP t most g off mult mn mx ps ns z SP SN pd pm pp pn w'∧Fr (fun b=>SP b∨SN b) w w')
    (first | (with_reducible exact hs0) | (with_reducible exact hs1) | (with_reducible exact hs2))
    (first | (go_at_fn Q.fTot; (with_reducible refine CP.mono ?_); rintro e w1 ⟨rfl,hk1⟩; have hs1:=HD1 w1 hk1; have CN1:=CN w1 hs1.2.1; have HD3:=HD2 w1 hs1.2) | (go_at_fn Q.fTot; (with_reducible refine CN1.mono ?_); rintro e w2 ⟨rfl,hk2⟩; have hs2:=HD3 w2 hk2))
  go_wp2
  go_ret
  exact ⟨rfl,hs2.2.1,hs2.2.2⟩
end
end Go.Proofs.YtllaekopaglolaaGreat
end
