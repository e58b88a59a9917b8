/-
  Log,of all floats from 2^-24 to 2^24: it is told,and keeps the order.
-/
import Derived.Test.YtllaekopaglolaaGreatGBO
import Derived.Test.YtllaekopaglolaaGreatGAJ
import Derived.Test.YtllaekopaglolaaGreatGBN
import Derived.Test.YtllaekopaglolaaGreatGAL
section
namespace Go.Proofs.YtllaekopaglolaaGreat
open Go.RowKit
open Ieee
set_option exponentiation.threshold 5000
def logG (x:Nat):Int:=if x % 4503599627370496<1865452045155277 then 2*((x % 4503599627370496:Nat):Int) else ((x % 4503599627370496:Nat):Int) - 4503599627370496
def logK (x:Nat):Int:=if x % 4503599627370496<1865452045155277 then ((x / 4503599627370496:Nat):Int) - 1023 else ((x / 4503599627370496:Nat):Int) - 1022
theorem qv_half (g:Int) (J:Nat) (hJ:J=1021):qv (g*2^J)=(g:Rat) / 9007199254740992:=by
  have h:=uw_mul (J+53) (by omega)
  rw [Nat.pow_add,Rat.natCast_mul] at h
  have e53:((2^53:Nat):Rat)=9007199254740992:=by rw [show (2:Nat)^53=9007199254740992 from by decide]; rfl
  rw [e53] at h
  unfold qv
  rw [pow_cast,Rat.intCast_mul,Rat.intCast_natCast]
  grind
theorem log_guards {x:Nat} (h1:4503599627370496≤x) (h2:x<9142307245003341824):isNum x=true∧fgt x 9218868437227405311=false∧flt x 0=false∧feq x 0=false∧frexpF x=some (x % 4503599627370496+4602678819172646912,((x / 4503599627370496:Nat):Int) - 1022):=by
  have hp:posB x=true:=by
    unfold posB
    rw [Bool.and_eq_true]
    exact ⟨Nat.ble_eq_true_of_le h1,by rw [Nat.blt_eq]; exact h2⟩
  have hx:=fv_pos h1 (by omega)
  have hpv:=PV_pos (m:=4503599627370496+x % 4503599627370496) (e:=x / 4503599627370496 - 1) (by omega)
  refine ⟨isNum_fv hx,?_,?_,?_,?_⟩
  · rw [fgt_q]
    unfold qgt qlt
    rw [posB_fin hp,show finB 9218868437227405311=true from by decide,Bool.and_self,cond_true,cond_true,show Nat.ble 9223372036854775808 9218868437227405311=false from by decide,cond_false,ble_decide,decide_eq_false (by omega),cond_false,blt_decide,decide_eq_false (by omega)]
  · rw [flt_fv hx fv_zero]; exact decide_eq_false (by omega)
  · rw [feq_fv hx fv_zero]; exact decide_eq_false (by omega)
  · rw [frexp_q]
    unfold qfrexp
    rw [hp,cond_true,wn_eq]
    have:Int.subNatNat (Nat.div x 4503599627370496) 1022=((x / 4503599627370496:Nat):Int) - 1022:=by
      rw [Int.subNatNat_eq_coe]; rfl
    rw [this]
    rfl
theorem mul_two {f M:Nat} (hM1:4503599627370496≤M) (hM2:M<9007199254740992) (hf:FV f (PV false M 1021)):fmul f 4611686018427387904=some (enB false M 1022):=by
  have hT:FV 4611686018427387904 (PV false 4503599627370496 1023):=fv_pos (x:=4611686018427387904) (by decide) (by decide)
  have hl:M.log2=52:=by
    refine (Nat.log2_eq_iff (by omega)).2 ⟨?_,?_⟩
    · have:(2:Nat)^52=4503599627370496:=by decide
      omega
    · have:(2:Nat)^(52+1)=9007199254740992:=by decide
      omega
  have h52:(2:Nat)^52=4503599627370496:=by decide
  have hn:M*4503599627370496≠0:=by omega
  have hlog:(M*4503599627370496).log2=104:=by
    rw [← h52,log2_pow_mul _ _ (by omega),hl]
  have hv:=PV_mul false false M 4503599627370496 1021 1023
  rw [Bool.xor_self,show 1021+1023=2044 from rfl] at hv
  obtain ⟨z,hz,hzf⟩:=fmul_fv hf hT (by rw [hv,PV_natAbs,log2_pow_mul _ _ (by omega),hlog]; omega)
  rw [hv,rndI_PV 1074 false _ _ 2096 hn (by rw [hlog]) (by omega)] at hzf
  obtain ⟨q,hq⟩:∃ q,q=2044:=⟨_,rfl⟩
  have e1:M*4503599627370496*2^2044=M*2^2096:=by
    rw [← hq,show 2096=52+q from by omega,Nat.pow_add 2 52,h52,Nat.mul_assoc]
  rw [e1,rhe_exact,show 2096 - 1074=1022 from rfl] at hzf
  show floatBits .mul .f64 f 4611686018427387904=_
  rw [hz,fv_enB hzf hM1 (by omega)]
theorem log_val {x:Nat} (h1:4499096027743125504≤x) (h2:x≤4715268809856909312) (J:Nat) (hJ:J=1021) :
    ∃ z V,logF x=some z∧FV z V∧LogAt (logG x*2^J) (logK x*2^(53+J)) V ∧ -64≤qv V∧qv V≤64:=by
  obtain ⟨b0,b1,b2,b3,b4,b5,b6,b7,b13,b14,b15⟩:=BB_num
  obtain ⟨p1,p2,p3,p4,p5⟩:=log_guards (x:=x) (by omega) (by omega)
  have n1:need (isNum x)=some ():=by rw [p1]; rfl
  have n2:need (!(fgt x 9218868437227405311))=some ():=by rw [p2]; rfl
  have n3:need (!(flt x 0))=some ():=by rw [p3]; rfl
  have n4:need (!(feq x 0))=some ():=by rw [p4]; rfl
  have hm:=Nat.mod_lt x (show 0<4503599627370496 by decide)
  have hO:=i2f_fv 1 (53+J) (by omega) (by decide)
  have ho1:floatOfInt .f64 1=4607182418800017408:=by decide +kernel
  rw [ho1] at hO
  have qO:qv (1*2^(53+J))=1:=by rw [qv_pow 1 (53+J) (by omega)]; rfl
  have hkb:-30≤logK x∧logK x≤30:=by unfold logK; split <;> constructor <;> omega
  have hK:=i2f_fv (logK x) (53+J) (by omega) (by omega)
  have qK:=qv_pow (logK x) (53+J) (by omega)
  have k1:-30≤qv (logK x*2^(53+J)):=by rw [qK]; have:=Rat.intCast_le_intCast.2 hkb.1; exact this
  have k2:qv (logK x*2^(53+J))≤30:=by rw [qK]; have:=Rat.intCast_le_intCast.2 hkb.2; exact this
  have hgb:-2638147582215219≤logG x∧logG x≤3730904090310552:=by unfold logG; split <;> constructor <;> omega
  have qG:=qv_half (logG x) J hJ
  have g1:(-2638147582215219:Rat)≤(logG x:Rat):=by have:=Rat.intCast_le_intCast.2 hgb.1; exact this
  have g2:(logG x:Rat)≤3730904090310552:=by have:=Rat.intCast_le_intCast.2 hgb.2; exact this
  have hbig:logG x*2^J≠0→2^1000≤(logG x*2^J).natAbs:=fun h=>by
    have h0:logG x≠0:=fun e=>by rw [e,Int.zero_mul] at h; exact h rfl
    rw [pow_cast,Int.natAbs_mul,Int.natAbs_natCast]
    have a:1*2^J≤(logG x).natAbs*2^J:=Nat.mul_le_mul_right _ (by omega)
    have b:2^1000≤2^J:=Nat.pow_le_pow_right (by decide) (by omega)
    omega
  obtain ⟨f0,hf0⟩:∃ f0,f0=x % 4503599627370496+4602678819172646912:=⟨_,rfl⟩
  rw [← hf0] at p5
  have fv0:FV f0 (PV false (4503599627370496+x % 4503599627370496) 1021):=by
    have:=fv_pos (x:=f0) (by omega) (by omega)
    rw [hf0,show (x % 4503599627370496+4602678819172646912) % 4503599627370496=x % 4503599627370496 from by omega,show (x % 4503599627370496+4602678819172646912) / 4503599627370496 - 1=1021 from by omega,← hf0] at this
    exact this
  have eP:PV false (4503599627370496+x % 4503599627370496) 1021=((4503599627370496+x % 4503599627370496:Nat):Int)*2^J:=by
    rw [← hJ]; unfold PV; rw [pow_cast,Int.natCast_mul]; simp
  have fv0':=fv0
  rw [eP] at fv0
  have fvc:FV 4604544271217802189 (((6369051672525773:Nat):Int)*2^J):=by
    have:=fv_pos (x:=4604544271217802189) (by decide) (by decide)
    have e:PV false (4503599627370496+4604544271217802189 % 4503599627370496) (4604544271217802189 / 4503599627370496 - 1)=((6369051672525773:Nat):Int)*2^J:=by
      rw [show 4503599627370496+4604544271217802189 % 4503599627370496=6369051672525773 from by decide,show 4604544271217802189 / 4503599627370496 - 1=1021 from by decide,← hJ]
      unfold PV; rw [pow_cast,Int.natCast_mul]; simp
    rwa [e] at this
  have hpJ:(0:Int)<2^J:=Int.pow_pos (by decide)
  have hlt:flt f0 4604544271217802189=decide (x % 4503599627370496<1865452045155277):=by
    rw [flt_fv fv0 fvc,decide_eq_decide]
    constructor
    · intro h
      have:=Int.lt_of_mul_lt_mul_right h (Int.le_of_lt hpJ)
      omega
    · intro h
      exact Int.mul_lt_mul_of_pos_right (by omega) hpJ
  by_cases hc:x % 4503599627370496<1865452045155277
  · -- below the root: twice
    have hG:logG x=2*((x % 4503599627370496:Nat):Int):=by unfold logG; rw [if_pos hc]
    have hKx:logK x=((x / 4503599627370496:Nat):Int) - 1023:=by unfold logK; rw [if_pos hc]
    have hT:=i2f_fv 2 (53+J) (by omega) (by decide)
    have ho2:floatOfInt .f64 2=4611686018427387904:=by decide +kernel
    rw [ho2] at hT
    have qT:qv (2*2^(53+J))=2:=by rw [qv_pow 2 (53+J) (by omega)]; rfl
    have q0:=qv_half ((4503599627370496+x % 4503599627370496:Nat):Int) J hJ
    have m1:(0:Rat)≤(((4503599627370496+x % 4503599627370496:Nat):Int):Rat):=by
      have:=Rat.intCast_le_intCast.2 (show (0:Int)≤((4503599627370496+x % 4503599627370496:Nat):Int) by omega); exact this
    have m2:(((4503599627370496+x % 4503599627370496:Nat):Int):Rat)≤9007199254740992:=by
      have:=Rat.intCast_le_intCast.2 (show ((4503599627370496+x % 4503599627370496:Nat):Int)≤9007199254740992 by omega); exact this
    obtain ⟨f1,hf1⟩:∃ f1,f1=x % 4503599627370496+4607182418800017408:=⟨_,rfl⟩
    have fv1:FV f1 (((4503599627370496+x % 4503599627370496:Nat):Int)*2^(1+J)):=by
      have:=fv_pos (x:=f1) (by omega) (by omega)
      rw [hf1,show (x % 4503599627370496+4607182418800017408) % 4503599627370496=x % 4503599627370496 from by omega,show (x % 4503599627370496+4607182418800017408) / 4503599627370496 - 1=1022 from by omega,← hf1] at this
      have e:PV false (4503599627370496+x % 4503599627370496) 1022=((4503599627370496+x % 4503599627370496:Nat):Int)*2^(1+J):=by
        rw [show 1+J=1022 from by omega]; unfold PV; rw [pow_cast,Int.natCast_mul]; simp
      rwa [e] at this
    have gm:fmul f0 4611686018427387904=some f1:=by
      have:=mul_two (M:=4503599627370496+x % 4503599627370496) (by omega) (by omega) fv0'
      rw [this]
      have e:enB false (4503599627370496+x % 4503599627370496) 1022=f1:=by unfold enB; rw [cond_false,hf1]; omega
      rw [e]
    have q1:=qv_half (((4503599627370496+x % 4503599627370496:Nat):Int)*2) J hJ
    have e1:((4503599627370496+x % 4503599627370496:Nat):Int)*2^(1+J)=((4503599627370496+x % 4503599627370496:Nat):Int)*2*2^J:=by
      rw [Int.pow_add,show (2:Int)^1=2 from rfl,Int.mul_assoc]
    rw [e1] at fv1
    have q2:(((((4503599627370496+x % 4503599627370496:Nat):Int)*2:Int)):Rat)=2*(((4503599627370496+x % 4503599627370496:Nat):Int):Rat):=by rw [Rat.intCast_mul,Rat.mul_comm]; rfl
    obtain ⟨zf,gf,ff,-⟩:=fsub_r 1027 fv1 hO (by decide) (by rw [q1,q2,qO,b6]; grind) (by rw [q1,q2,qO,b6]; grind)
    have ef:((4503599627370496+x % 4503599627370496:Nat):Int)*2*2^J - 1*2^(53+J)=logG x*2^J:=by
      rw [hG,Int.pow_add,show (2:Int)^53=9007199254740992 from by decide,Int.one_mul,← Int.sub_mul]
      congr 1
      omega
    rw [ef,rndI_exact _ J (by omega)] at ff
    obtain ⟨d,s,s2,s4,a1,a2,a3,a4,a5,a6,t1,y1,y2,y3,y4,t2,R,c1,h,g1',g2',g3,g4,g5,g6,g7,r,G6,w1,w2,w3,w4,w5,w6,w7,w8,w9,w10,w11,w12,w13,w14,w15,w16,w17,w18,w19,w20,w21,w22,w23,w24,w25,w26,w27,fr,nr,v1,v2⟩:=log_core ff rfl (by rw [qG]; grind) (by rw [qG]; grind) hbig hK k1 k2
    refine ⟨r,_,?_,fr,⟨G6,rfl,nr⟩,v1,v2⟩
    have hk1:wrap64 (((x / 4503599627370496:Nat):Int) - 1022 - 1)=logK x:=by rw [hKx]; unfold wrap64; omega
    have n6:need (flt f0 4604544271217802189)=some ():=by rw [hlt,decide_eq_true hc]; rfl
    have hk1':some (wrap64 (((x / 4503599627370496:Nat):Int) - 1022 - 1))=some (logK x):=by rw [hk1]
    have hlow:logLowF x=some r:=by
      unfold logLowF
      simp only [Option.bind_eq_some_iff,Prod.exists]
      exact ⟨(),n1,(),n2,(),n3,(),n4,f0,_,p5,(),n6,f1,gm,logK x,hk1',zf,gf,_,rfl,d,w1,s,w2,s2,w3,s4,w4,a1,w5,a2,w6,a3,w7,a4,w8,a5,w9,a6,w10,t1,w11,y1,w12,y2,w13,y3,w14,y4,w15,t2,w16,R,w17,c1,w18,h,w19,g1',w20,g2',w21,g3,w22,g4,w23,g5,w24,g6,w25,g7,w26,r,w27,rfl⟩
    unfold logF
    rw [hlow,Option.some_or]
  · -- above
    have hG:logG x=((x % 4503599627370496:Nat):Int) - 4503599627370496:=by unfold logG; rw [if_neg hc]
    have hKx:logK x=((x / 4503599627370496:Nat):Int) - 1022:=by unfold logK; rw [if_neg hc]
    have q0:=qv_half ((4503599627370496+x % 4503599627370496:Nat):Int) J hJ
    have m1:(0:Rat)≤(((4503599627370496+x % 4503599627370496:Nat):Int):Rat):=by
      have:=Rat.intCast_le_intCast.2 (show (0:Int)≤((4503599627370496+x % 4503599627370496:Nat):Int) by omega); exact this
    have m2:(((4503599627370496+x % 4503599627370496:Nat):Int):Rat)≤9007199254740992:=by
      have:=Rat.intCast_le_intCast.2 (show ((4503599627370496+x % 4503599627370496:Nat):Int)≤9007199254740992 by omega); exact this
    obtain ⟨zf,gf,ff,-⟩:=fsub_r 1027 fv0 hO (by decide) (by rw [q0,qO,b6]; grind) (by rw [q0,qO,b6]; grind)
    have ef:((4503599627370496+x % 4503599627370496:Nat):Int)*2^J - 1*2^(53+J)=logG x*2^J:=by
      rw [hG,Int.pow_add,show (2:Int)^53=9007199254740992 from by decide,Int.one_mul,← Int.sub_mul]
      congr 1
      omega
    rw [ef,rndI_exact _ J (by omega)] at ff
    obtain ⟨d,s,s2,s4,a1,a2,a3,a4,a5,a6,t1,y1,y2,y3,y4,t2,R,c1,h,g1',g2',g3,g4,g5,g6,g7,r,G6,w1,w2,w3,w4,w5,w6,w7,w8,w9,w10,w11,w12,w13,w14,w15,w16,w17,w18,w19,w20,w21,w22,w23,w24,w25,w26,w27,fr,nr,v1,v2⟩:=log_core ff rfl (by rw [qG]; grind) (by rw [qG]; grind) hbig hK k1 k2
    refine ⟨r,_,?_,fr,⟨G6,rfl,nr⟩,v1,v2⟩
    have n6:need (flt f0 4604544271217802189)=none:=by rw [hlt,decide_eq_false hc]; rfl
    have n7:need (!(flt f0 4604544271217802189))=some ():=by rw [hlt,decide_eq_false hc]; rfl
    have hlow:logLowF x=none:=by
      cases hz:logLowF x with
      | none=>rfl
      | some r0 =>
        exfalso
        unfold logLowF at hz
        simp only [Option.bind_eq_some_iff,Prod.exists] at hz
        obtain ⟨_,_,_,_,_,_,_,_,f0',k0',e5,_,e6,_⟩:=hz
        rw [p5] at e5
        simp only [Option.some.injEq,Prod.mk.injEq] at e5
        rw [← e5.1,n6] at e6
        cases e6
    have hhigh:logHighF x=some r:=by
      unfold logHighF
      simp only [Option.bind_eq_some_iff,Prod.exists]
      exact ⟨(),n1,(),n2,(),n3,(),n4,f0,_,by rw [p5,← hKx],(),n7,zf,gf,_,rfl,d,w1,s,w2,s2,w3,s4,w4,a1,w5,a2,w6,a3,w7,a4,w8,a5,w9,a6,w10,t1,w11,y1,w12,y2,w13,y3,w14,y4,w15,t2,w16,R,w17,c1,w18,h,w19,g1',w20,g2',w21,g3,w22,g4,w23,g5,w24,g6,w25,g7,w26,r,w27,rfl⟩
    unfold logF
    rw [hlow,hhigh,Option.none_or]
end Go.Proofs.YtllaekopaglolaaGreat
end
/-
  The logarithmic mapping's index: it is told for all floats from 2^-24 to 2^24; greater ones have no lesser index.
-/
section
namespace Go.Proofs.YtllaekopaglolaaGreat
open Go.RowKit
open Ieee
set_option exponentiation.threshold 5000
def LogV (x:Nat) (V:Int):Prop:=∃ z,logF x=some z∧FV z V
theorem LogV.unique {x:Nat} {V V':Int} (h:LogV x V) (h':LogV x V'):V=V':=by
  obtain ⟨z,hz,hf⟩:=h
  obtain ⟨z',hz',hf'⟩:=h'
  rw [hz] at hz'
  cases hz'
  have a:=flt_fv hf hf'
  have b:=flt_fv hf' hf
  have c:=flt_fv hf hf
  obtain ⟨-,s,m,i,r,v⟩:=hf
  obtain ⟨-,s',m',i',r',v'⟩:=hf'
  rw [r] at r'
  cases r'
  rw [← v,← v']
theorem log_same {x y:Nat} {V V':Int} (h1:4499096027743125504≤x) (hxy:x<y) (h2:y≤4715268809856909312) (hb:(x - 1865452045155277) / 4503599627370496=(y - 1865452045155277) / 4503599627370496) (hV:LogV x V) (hV':LogV y V'):V≤V':=by
  obtain ⟨J,hJ⟩:∃ J,J=1021:=⟨_,rfl⟩
  obtain ⟨z,W,a1,a2,a3,-,-⟩:=log_val h1 (by omega) J hJ
  obtain ⟨z',W',b1,b2,b3,-,-⟩:=log_val (x:=y) (by omega) h2 J hJ
  have e1:=hV.unique ⟨z,a1,a2⟩
  have e2:=hV'.unique ⟨z',b1,b2⟩
  rw [e1,e2]
  clear hV hV' a1 a2 b1 b2 e1 e2
  have hk:logK x=logK y:=by unfold logK; split <;> split <;> omega
  rw [hk] at a3
  have qx:=qv_half (logG x) J hJ
  have qy:=qv_half (logG y) J hJ
  have hgx:-2638147582215219≤logG x:=by unfold logG; split <;> omega
  have hgy:logG y≤3730904090310552:=by unfold logG; split <;> omega
  have hg:(logG y≤0∧logG x+1≤logG y)∨logG x+2≤logG y:=by
    unfold logG
    split <;> split <;> omega
  have r1:(-2638147582215219:Rat)≤(logG x:Rat):=by have:=Rat.intCast_le_intCast.2 hgx; exact this
  have r2:(logG y:Rat)≤3730904090310552:=by have:=Rat.intCast_le_intCast.2 hgy; exact this
  refine logAt_step a3 b3 (by rw [qx]; grind) (by rw [qy]; grind) ?_
  rw [qx,qy]
  rcases hg with ⟨g1,g2⟩ | g2
  · have s1:(logG y:Rat)≤0:=by have:=Rat.intCast_le_intCast.2 g1; exact this
    have s2:(logG x:Rat)+1≤(logG y:Rat):=by have:=Rat.intCast_le_intCast.2 g2; rw [Rat.intCast_add] at this; exact this
    exact .inl ⟨by grind,by grind⟩
  · have s2:(logG x:Rat)+2≤(logG y:Rat):=by have:=Rat.intCast_le_intCast.2 g2; rw [Rat.intCast_add] at this; exact this
    exact .inr (by grind)
def bp (b:Nat):Nat:=1865452045155277+(b+1)*4503599627370496 - 1
def logBorder (x:Nat):Bool :=
  match logQ x,logQ (x+1) with
  | some u,some v=>qle u v
  | _,_=>false
def logBorders (n:Nat):Bool:=match n with | 0=>true | n+1=>logBorder (bp (998+n))&&logBorders n
theorem log_borders:logBorders 48=true:=by decide +kernel
theorem logBorders_at (n:Nat) (h:logBorders n=true) (i:Nat) (hi:i<n):logBorder (bp (998+i))=true:=by
  induction n with
  | zero=>omega
  | succ n ih =>
    unfold logBorders at h
    rw [Bool.and_eq_true] at h
    by_cases he:i=n
    · subst he; exact h.1
    · exact ih h.2 (by omega)
theorem border_le {x:Nat} (h:logBorder x=true) {V V':Int} (hV:LogV x V) (hV':LogV (x+1) V'):V≤V':=by
  obtain ⟨z,hz,hf⟩:=hV
  obtain ⟨z',hz',hf'⟩:=hV'
  rw [log_q] at hz hz'
  unfold logBorder at h
  rw [hz,hz'] at h
  dsimp only at h
  rw [← fle_q,fle_fv hf hf'] at h
  exact of_decide_eq_true h
theorem bp_eq (b:Nat):bp b=1865452045155277+(b+1)*4503599627370496 - 1:=rfl
attribute [irreducible] bp
theorem log_border {b:Nat} (h1:998≤b) (h2:b<1046) {V V':Int} (hV:LogV (bp b) V) (hV':LogV (bp b+1) V'):V≤V':=by
  have h:=logBorders_at 48 log_borders (b - 998) (by omega)
  have e:998+(b - 998)=b:=by omega
  rw [e] at h
  exact border_le h hV hV'
theorem logV_ex {x:Nat} (h1:4499096027743125504≤x) (h2:x≤4715268809856909312):∃ V,LogV x V:=by
  obtain ⟨z,W,a1,a2,-⟩:=log_val h1 h2 1021 rfl
  exact ⟨W,z,a1,a2⟩
theorem logV_mono (n:Nat):∀ {x y:Nat} {V V':Int},4499096027743125504≤x→x≤y→y≤4715268809856909312→(y - 1865452045155277) / 4503599627370496 - (x - 1865452045155277) / 4503599627370496=n→LogV x V→LogV y V'→V≤V':=by
  induction n with
  | zero =>
    intro x y V V' h1 hxy h2 hn hV hV'
    have hle:(x - 1865452045155277) / 4503599627370496≤(y - 1865452045155277) / 4503599627370496:=Nat.div_le_div_right (by omega)
    by_cases he:x=y
    · subst he; rw [hV.unique hV']; exact Int.le_refl _
    · exact log_same h1 (by omega) h2 (by omega) hV hV'
  | succ n ih =>
    intro x y V V' h1 hxy h2 hn hV hV'
    obtain ⟨b,hb⟩:∃ b,b=(x - 1865452045155277) / 4503599627370496:=⟨_,rfl⟩
    have hb1:998≤b:=by omega
    have hb2:b<1046:=by omega
    have hp:=bp_eq b
    obtain ⟨p,hpp⟩:∃ p,p=bp b:=⟨_,rfl⟩
    rw [← hpp] at hp
    obtain ⟨U,hU⟩:=logV_ex (x:=p) (by omega) (by omega)
    obtain ⟨U',hU'⟩:=logV_ex (x:=p+1) (by omega) (by omega)
    have a1:V≤U:=by
      by_cases he:x=p
      · rw [← he] at hU; rw [hV.unique hU]; exact Int.le_refl _
      · exact log_same h1 (by omega) (by omega) (by omega) hV hU
    have a2:U≤U':=log_border hb1 hb2 (by rw [← hpp]; exact hU) (by rw [← hpp]; exact hU')
    have ep:(p+1 - 1865452045155277) / 4503599627370496=b+1:=by
      rw [hp,show 1865452045155277+(b+1)*4503599627370496 - 1+1 - 1865452045155277=(b+1)*4503599627370496 from by omega]
      exact Nat.mul_div_cancel _ (by decide)
    have en:(y - 1865452045155277) / 4503599627370496 - (p+1 - 1865452045155277) / 4503599627370496=n:=by
      rw [ep]
      rw [← hb] at hn
      generalize (y - 1865452045155277) / 4503599627370496=Y at hn
      omega
    have a3:U'≤V':=ih (x:=p+1) (by omega) (by omega) h2 en hU' hV'
    omega
theorem idxLog_mono {off mult:Nat} {c o:Int} (hm:FV mult c) (ho:FV off o) (c1:0<qv c) (c2:qv c≤128) (o1:0≤qv o) (o2:qv o≤128) {x y:Nat} (h1:4499096027743125504≤x) (h:x≤y) (h2:y≤4715268809856909312) :
    ∃ i j,idxLogF off mult x=some i∧idxLogF off mult y=some j∧i≤j:=by
  obtain ⟨K,hK⟩:∃ K,K=1074:=⟨_,rfl⟩
  obtain ⟨J,hJ⟩:∃ J,J=1021:=⟨_,rfl⟩
  have hc:0≤c:=by
    have e0:qv 0=0:=by unfold qv; simp
    have:=lt_of_qv (a:=0) (b:=c) (by rw [e0]; exact c1)
    omega
  obtain ⟨z,W,a1,a2,-,v1,v2⟩:=log_val h1 (by omega) J hJ
  obtain ⟨z',W',b1,b2,-,u1,u2⟩:=log_val (x:=y) (by omega) h2 J hJ
  obtain ⟨n,hn⟩:∃ n,(y - 1865452045155277) / 4503599627370496 - (x - 1865452045155277) / 4503599627370496=n:=⟨_,rfl⟩
  have hle:=logV_mono n h1 h h2 hn ⟨z,a1,a2⟩ ⟨z',b1,b2⟩
  refine ⟨_,_,?_,?_,tailV_mono hc hle (K:=K) (o:=o)⟩
  · unfold idxLogF
    rw [a1]
    exact tail_some hK a2 hm ho v1 v2 c1 c2 o1 o2
  · unfold idxLogF
    rw [b1]
    exact tail_some hK b2 hm ho u1 u2 c1 c2 o1 o2
end Go.Proofs.YtllaekopaglolaaGreat
end
/-
  The cubic mapping's index,whole.
-/
section
namespace Go.Proofs.YtllaekopaglolaaGreat
open Go.RowKit
open Ieee
set_option exponentiation.threshold 5000
def cubLow (m:Nat):Bool:=decide (0≤cubY ((m:Int)*2^1022))
def cubTop (m:Nat):Bool:=decide (cubY (((4503599627370496 - m:Nat):Int)*2^1022)≤1*2^1074)
theorem cub_low:(cubLow 0&&cubLow 1&&cubLow 2&&cubLow 3&&cubLow 4&&cubLow 5&&cubLow 6&&cubLow 7)=true:=by decide +kernel
theorem cub_top:(cubTop 1&&cubTop 2&&cubTop 3&&cubTop 4&&cubTop 5&&cubTop 6&&cubTop 7&&cubTop 8)=true:=by decide +kernel
theorem cubY_low {m J:Nat} (hJ:J=1022) (hm:m<4503599627370496):0≤cubY ((m:Int)*2^J):=by
  by_cases h:m<8
  · have hl:=cub_low
    simp only [Bool.and_eq_true] at hl
    obtain ⟨⟨⟨⟨⟨⟨⟨l0,l1⟩,l2⟩,l3⟩,l4⟩,l5⟩,l6⟩,l7⟩:=hl
    subst hJ
    have key:cubLow m=true:=by
      match m,h with
      | 0,_=>exact l0
      | 1,_=>exact l1
      | 2,_=>exact l2
      | 3,_=>exact l3
      | 4,_=>exact l4
      | 5,_=>exact l5
      | 6,_=>exact l6
      | 7,_=>exact l7
    exact of_decide_eq_true key
  · obtain ⟨b1,b2⟩:=cubY_near hJ hm
    have n1:(m:Rat)≤4503599627370496:=by
      have:=Rat.natCast_le_natCast.2 (show m≤4503599627370496 by omega)
      exact this
    have n0:8≤(m:Rat):=by
      have:=Rat.natCast_le_natCast.2 (show 8≤m by omega)
      exact this
    have st:=poly_step (a:=qv cA) (b:=qv cB) (c:=qv cC) (s:=0) (t:=(m:Rat) / 4503599627370496) (by rw [cA_qv]; grind) (by grind) (by grind) (by rw [cA_qv,cB_qv]; grind) (by rw [cA_qv,cB_qv,cC_qv]; grind)
    have p0:polyC (qv cA) (qv cB) (qv cC) 0=0:=by unfold polyC; grind
    rw [p0] at st
    have e0:qv 0=0:=by unfold qv; simp
    refine le_of_qv ?_
    rw [e0]
    grind
theorem cubY_top {m J:Nat} (hJ:J=1022) (hm:m<4503599627370496):cubY ((m:Int)*2^J)≤1*2^(52+J):=by
  by_cases h:4503599627370496≤m+8
  · have hl:=cub_top
    simp only [Bool.and_eq_true] at hl
    obtain ⟨⟨⟨⟨⟨⟨⟨l1,l2⟩,l3⟩,l4⟩,l5⟩,l6⟩,l7⟩,l8⟩:=hl
    subst hJ
    obtain ⟨k,hk⟩:∃ k,k=4503599627370496 - m:=⟨_,rfl⟩
    have hmk:m=4503599627370496 - k:=by omega
    have hk8:k<9:=by omega
    have hk0:k≠0:=by omega
    have key:cubTop k=true:=by
      match k,hk8,hk0 with
      | 1,_,_=>exact l1
      | 2,_,_=>exact l2
      | 3,_,_=>exact l3
      | 4,_,_=>exact l4
      | 5,_,_=>exact l5
      | 6,_,_=>exact l6
      | 7,_,_=>exact l7
      | 8,_,_=>exact l8
    have:=of_decide_eq_true key
    rw [hmk]
    exact this
  · obtain ⟨b1,b2⟩:=cubY_near hJ hm
    have n0:(0:Rat)≤(m:Rat):=Rat.natCast_nonneg
    have n1:(m:Rat)+8≤4503599627370496:=by
      have:=Rat.natCast_le_natCast.2 (show m+8≤4503599627370496 by omega)
      rw [Rat.natCast_add] at this
      exact this
    have st:=poly_step (a:=qv cA) (b:=qv cB) (c:=qv cC) (s:=(m:Rat) / 4503599627370496) (t:=1) (by rw [cA_qv]; grind) (by grind) (by grind) (by rw [cA_qv,cB_qv]; grind) (by rw [cA_qv,cB_qv,cC_qv]; grind)
    have p1:polyC (qv cA) (qv cB) (qv cC) 1≤1+1 / 9007199254740992:=by unfold polyC; rw [cA_qv,cB_qv,cC_qv]; grind
    have e1:=qv_pow 1 (52+J) (by omega)
    refine le_of_qv ?_
    rw [e1]
    have:(((1:Int):Int):Rat)=1:=rfl
    rw [this]
    grind
def cubA (J x:Nat):Int:=rndI 0 (cubY (((x % 4503599627370496:Nat):Int)*2^J)+(((x / 4503599627370496:Nat):Int) - 1023)*2^(52+J))
theorem cubA_step {x y J:Nat} (hJ:J=1022) (h:x+4≤y):cubA J x≤cubA J y:=by
  unfold cubA
  refine rndI_mono 0 ?_
  have hx:=Nat.mod_lt x (show 0<4503599627370496 by decide)
  have hy:=Nat.mod_lt y (show 0<4503599627370496 by decide)
  by_cases he:x / 4503599627370496=y / 4503599627370496
  · rw [he]
    have:=cubY_step hJ (m:=x % 4503599627370496) (n:=y % 4503599627370496) (by omega) hy
    omega
  · have t1:=cubY_top hJ hx
    have t2:=cubY_low hJ hy
    have hp:(0:Int)≤2^(52+J):=by rw [pow_cast]; exact Int.natCast_nonneg _
    have h1:((x / 4503599627370496:Nat):Int) - 1023+1≤((y / 4503599627370496:Nat):Int) - 1023:=by omega
    have h2:=Int.mul_le_mul_of_nonneg_right h1 hp
    rw [Int.add_mul] at h2
    omega
theorem logCub_val {x:Nat} (h1:4499096027743125504≤x) (h2:x≤4715268809856909312) (J:Nat) (hJ:J=1022):∃ z,logCubF x=some z∧FV z (cubA J x) ∧ -64≤qv (cubA J x)∧qv (cubA J x)≤64:=by
  obtain ⟨b0,b1,b2,b3,b4,b5,b6,b7,b13,b14,b15⟩:=BB_num
  have hE:=expo_fv (x:=x) (by omega) (by omega) (52+J) (by omega)
  have hS:=signi_fv (x:=x) (by omega)
  have qE:=qv_pow (((x / 4503599627370496:Nat):Int) - 1023) (52+J) (by omega)
  have qS:=qv_PV52 (4503599627370496+x % 4503599627370496)
  have hm:=Nat.mod_lt x (show 0<4503599627370496 by decide)
  have hO:=i2f_fv 1 (52+J) (by omega) (by decide)
  have qO:=qv_pow 1 (52+J) (by omega)
  have ho1:floatOfInt .f64 1=4607182418800017408:=by decide +kernel
  rw [ho1] at hO
  have qO':qv (1*2^(52+J))=1:=by rw [qO]; rfl
  have r1:(-24:Rat)≤((((x / 4503599627370496:Nat):Int) - 1023:Int):Rat):=by
    have:=Rat.intCast_le_intCast.2 (show (-24:Int)≤((x / 4503599627370496:Nat):Int) - 1023 by omega)
    exact this
  have r2:((((x / 4503599627370496:Nat):Int) - 1023:Int):Rat)≤24:=by
    have:=Rat.intCast_le_intCast.2 (show ((x / 4503599627370496:Nat):Int) - 1023≤(24:Int) by omega)
    exact this
  have r3:(0:Rat)≤((4503599627370496+x % 4503599627370496:Nat):Rat):=by
    have:=Rat.natCast_le_natCast.2 (show 0≤4503599627370496+x % 4503599627370496 by omega)
    exact this
  have r4:((4503599627370496+x % 4503599627370496:Nat):Rat)≤9007199254740992:=by
    have:=Rat.natCast_le_natCast.2 (show 4503599627370496+x % 4503599627370496≤9007199254740992 by omega)
    exact this
  obtain ⟨zs,gs,fs,-,-⟩:=fsub_r 1027 hS hO (by decide) (by rw [qS,qO',b6]; grind) (by rw [qS,qO',b6]; grind)
  have es:PV false (4503599627370496+x % 4503599627370496) 1022 - 1*2^(52+J)=((x % 4503599627370496:Nat):Int)*2^J:=by
    rw [← hJ]
    have e:PV false (4503599627370496+x % 4503599627370496) J=((4503599627370496+x % 4503599627370496:Nat):Int)*2^J:=by
      unfold PV; rw [pow_cast,Int.natCast_mul]; simp
    rw [e,Int.pow_add,show (2:Int)^52=4503599627370496 from by decide,Int.one_mul,← Int.sub_mul]
    congr 1
    omega
  rw [es,rndI_exact _ J (by omega)] at fs
  obtain ⟨z1,z2,z3,z4,z5,g1,g2,g3,g4,g5,f5,-⟩:=cub_at hJ (by omega) fs
  have t1:=qv_le (cubY_low hJ hm)
  have t2:=qv_le (cubY_top hJ hm)
  have e0:qv 0=0:=by unfold qv; simp
  rw [e0] at t1
  rw [qO'] at t2
  generalize hY:cubY (((x % 4503599627370496:Nat):Int)*2^J)=Y at *
  obtain ⟨z6,g6,f6,k1,k2⟩:=fadd_r 1027 f5 hE (by decide) (by rw [qE,b6]; grind) (by rw [qE,b6]; grind)
  rw [qE,b6] at k1 k2
  have hcA:cubA J x=rndI 0 (Y+(((x / 4503599627370496:Nat):Int) - 1023)*2^(52+J)):=by unfold cubA; rw [hY]
  rw [hcA]
  refine ⟨z6,?_,f6,by grind,by grind⟩
  unfold logCubF
  simp only [gs,g1,g2,g3,g4,g5,g6,Option.bind_some]
theorem idxCub_val {off mult:Nat} {c o:Int} (hm:FV mult c) (ho:FV off o) (c1:0<qv c) (c2:qv c≤128) (o1:0≤qv o) (o2:qv o≤128) {x:Nat} (h1:4499096027743125504≤x) (h2:x≤4715268809856909312) (J:Nat) (hJ:J=1022) :
    idxCubF off mult x=some (tailV (52+J) c o (cubA J x)):=by
  obtain ⟨z,hz,hf,a1,a2⟩:=logCub_val h1 h2 J hJ
  unfold idxCubF
  rw [hz]
  exact tail_some (by omega) hf hm ho a1 a2 c1 c2 o1 o2
theorem idxCub_step {off mult:Nat} {c o:Int} (hm:FV mult c) (ho:FV off o) (c1:0<qv c) (c2:qv c≤128) (o1:0≤qv o) (o2:qv o≤128) {x y:Nat} (h1:4499096027743125504≤x) (h:x+4≤y) (h2:y≤4715268809856909312) :
    ∃ i j,idxCubF off mult x=some i∧idxCubF off mult y=some j∧i≤j:=by
  obtain ⟨J,hJ⟩:∃ J,J=1022:=⟨_,rfl⟩
  have hc:0≤c:=by
    have e0:qv 0=0:=by unfold qv; simp
    have:=lt_of_qv (a:=0) (b:=c) (by rw [e0]; exact c1)
    omega
  exact ⟨_,_,idxCub_val hm ho c1 c2 o1 o2 h1 (by omega) J hJ,idxCub_val hm ho c1 c2 o1 o2 (by omega) h2 J hJ,tailV_mono hc (cubA_step hJ h)⟩
end Go.Proofs.YtllaekopaglolaaGreat
end
/-
  What each kind of mapping tells,from the looks: a frame for all percents.
-/
section
namespace Go.Proofs.YtllaekopaglolaaGreat
open Go.RowKit
open Ieee
set_option exponentiation.threshold 5000
def MapOk (of_:Nat→Option (Nat × Nat × Nat × Nat × Nat)) (acc:Nat→Option Nat) (idx:Nat→Nat→Nat→Option Int) (lower:Nat→Nat→Int→Option Nat) (value:Nat→Nat→Nat→Int→Option Nat) (p:Nat):Prop :=
  ∃ a g off mult mn mx ra part x,fdiv (floatOfInt .f64 p) 4636737291354636288=some a∧of_ a=some (g,off,mult,mn,mx)∧acc g=some ra∧nearO ra a 4472406533629990549=some true∧(posB mn=true∧finB mx=true)∧flt mn 4517329193108106637=true∧fgt mx 4696837146684686336=true ∧
    fmul a 4607182418804521008=some x∧fadd x 4427486594234968593=some part∧partOk p part=true ∧
    ∀ v w,4517329193108106637≤v→v≤w→w≤4696837146684686336→TellsV (idx off mult) (lower off mult) (value g off mult) p part v∧TellsV (idx off mult) (lower off mult) (value g off mult) p part w∧∃ i j,idx off mult v=some i∧idx off mult w=some j∧i≤j ∧ -5000≤i∧j≤5000
def smallZ (o:Nat):Bool:=Nat.beq o 0||(Nat.ble 4503599627370496 o&&Nat.ble o 4638707616191610880)
def smallB (o:Nat):Bool:=Nat.ble 4503599627370496 o&&Nat.ble o 4638707616191610880
theorem rvN_128:∃ K,K=1074∧rvN 4638707616191610880=128*2^K:=by
  refine ⟨1074,rfl,?_⟩
  decide +kernel
theorem smallB_is {o:Nat} (h:smallB o=true):∃ c,FV o c∧0<qv c∧qv c≤128:=by
  unfold smallB at h
  rw [Bool.and_eq_true] at h
  have h1:=Nat.le_of_ble_eq_true h.1
  have h2:=Nat.le_of_ble_eq_true h.2
  have hm:=rvN_mono h1 h2
  obtain ⟨K,hK,hk⟩:=rvN_128
  refine ⟨_,fv_rv h1 (by omega),qv_mul_pos ?_,?_⟩
  · unfold rvN
    have:=Nat.mul_pos (show 0<4503599627370496+o % 4503599627370496 by omega) (Nat.two_pow_pos (o / 4503599627370496 - 1))
    omega
  · have e:=qv_pow 128 K hK
    have:qv ((rvN o:Nat):Int)≤qv (128*2^K):=qv_le (by
      rw [hk] at hm
      have:=Int.ofNat_le.2 hm
      rw [Int.natCast_mul,Int.natCast_pow] at this
      exact this)
    rw [e] at this
    exact this
theorem smallZ_is {o:Nat} (h:smallZ o=true):∃ c,FV o c∧0≤qv c∧qv c≤128:=by
  unfold smallZ at h
  rw [Bool.or_eq_true] at h
  rcases h with h | h
  · have:=beq_nat h
    subst this
    have e0:qv 0=0:=by unfold qv; simp
    exact ⟨0,fv_zero,by rw [e0]; exact Rat.le_refl,by rw [e0]; decide⟩
  · obtain ⟨c,h1,h2,h3⟩:=smallB_is h
    exact ⟨c,h1,Rat.le_of_lt h2,h3⟩
def partLook (p a part:Nat):Bool :=
  (match qdiv (floatOfInt .f64 p) 4636737291354636288 with | some r=>Nat.beq r a | none=>false)&&((match qmul a 4607182418804521008 with | some x=>(match qadd x 4427486594234968593 with | some y=>Nat.beq y part | none=>false) | none=>false)&&partOk p part)
theorem partLook_is {p a part:Nat} (h:partLook p a part=true):∃ x,fdiv (floatOfInt .f64 p) 4636737291354636288=some a∧fmul a 4607182418804521008=some x∧fadd x 4427486594234968593=some part∧partOk p part=true:=by
  unfold partLook at h
  simp only [Bool.and_eq_true] at h
  obtain ⟨h1,h2,h3⟩:=h
  rw [← fdiv_q] at h1
  rw [← fmul_q] at h2
  cases ha:fdiv (floatOfInt .f64 p) 4636737291354636288 with
  | none=>rw [ha] at h1; cases h1
  | some r =>
    rw [ha] at h1
    have:=beq_nat h1
    subst this
    cases hx:fmul r 4607182418804521008 with
    | none=>rw [hx] at h2; cases h2
    | some x =>
      rw [hx] at h2
      dsimp only at h2
      rw [← fadd_q] at h2
      cases hy:fadd x 4427486594234968593 with
      | none=>rw [hy] at h2; cases h2
      | some y =>
        rw [hy] at h2
        have:=beq_nat h2
        subst this
        exact ⟨x,rfl,rfl,hy,h3⟩
theorem mapOk_mono {of_ ofQ:Nat→Option (Nat × Nat × Nat × Nat × Nat)} {acc accQ:Nat→Option Nat} {idx idxQ:Nat→Nat→Nat→Option Int} {lower lowerQ:Nat→Nat→Int→Option Nat} {value:Nat→Nat→Nat→Int→Option Nat}
    {p a off mult rb part:Nat} {i0 i1:Int} (e1:∀ a,of_ a=ofQ a) (e2:∀ g,acc g=accQ g) (e3:∀ o m v,idx o m v=idxQ o m v) (e4:∀ o m i,lower o m i=lowerQ o m i)
    (hval:∀ g o m i,value g o m i=(lower o m i).bind fun l=>(acc g).bind fun a=>(fadd 4607182418800017408 a).bind fun b=>fmul l b)
    (mono:∀ {off mult:Nat} {c o:Int},FV mult c→FV off o→0<qv c→qv c≤128→0≤qv o→qv o≤128→∀ {x y:Nat},4499096027743125504≤x→x≤y→y≤4715268809856909312→∃ i j,idx off mult x=some i∧idx off mult y=some j∧i≤j)
    (par:parLook ofQ accQ (idxQ off mult) a off mult rb i0 i1=true) (fact:∀ i,i0≤i→i≤i1+1→FactK (lowerQ off mult) (lookI (idxQ off mult)) rb p i)
    (hm:smallB mult=true) (ho:smallZ off=true) (hp:partLook p a part=true) (p1:1≤p) (p2:p≤50) (b0:-5000≤i0) (b1:i1≤5000):MapOk of_ acc idx lower value p:=by
  obtain ⟨g,mn,mx,ra,o1,o2,o3,o4,o45,o5,o6,o7,o8⟩:=parLook_is par
  obtain ⟨x,d1,d2,d3,d4⟩:=partLook_is hp
  obtain ⟨c,fm,c1,c2⟩:=smallB_is hm
  obtain ⟨o,fo,z1,z2⟩:=smallZ_is ho
  rw [← e1] at o1
  rw [← e2] at o2
  rw [← fadd_q] at o3
  rw [← flt_q] at o5
  refine ⟨a,g,off,mult,mn,mx,ra,part,x,d1,o1,o2,o4,o45,o5,?_,d2,d3,d4,?_⟩
  · rw [fgt_q]; exact o6
  intro v w v1 vw w2
  have hV:∀ i b V,lower off mult i=some b→qmul b rb=some V→value g off mult i=some V:=fun i b V hb hq=>by
    rw [← fmul_q] at hq
    rw [hval,hb,o2]
    show (fadd 4607182418800017408 ra).bind _=_
    rw [o3]
    exact hq
  have hmono:∀ x y,4499096027743125504≤x→x≤y→y≤4715268809856909312→∃ i j,idx off mult x=some i∧idx off mult y=some j∧i≤j:=fun x y a b c=>mono fm fo c1 c2 z1 z2 a b c
  have ei:idxQ off mult=idx off mult:=funext fun v=>(e3 off mult v).symm
  have el:lowerQ off mult=lower off mult:=funext fun v=>(e4 off mult v).symm
  rw [ei] at o7 o8
  rw [ei,el] at fact
  have L:∀ v,4517329193108106637≤v→v≤4696837146684686336→Lies (idx off mult) (lower off mult) rb p v:=fun v a b=>lies_mono hmono fact o7 o8 (by omega) (by omega) a b
  exact ⟨tells_of_lies hV (L v v1 (by omega)) d4 p1 p2 v1 (by omega),tells_of_lies hV (L w (by omega) w2) d4 p1 p2 (by omega) w2,by
    obtain ⟨i,j,ei,ej,hij⟩:=hmono v w (by omega) vw (by omega)
    obtain ⟨k,l,ek,el',hkl⟩:=hmono 4517329193108106637 v (by omega) v1 (by omega)
    obtain ⟨m,n,em,en,hmn⟩:=hmono w 4696837146684686336 (by omega) w2 (by omega)
    rw [o7] at ek; cases ek
    rw [o8] at en; cases en
    rw [ei] at el'; cases el'
    rw [ej] at em; cases em
    exact ⟨_,_,ei,ej,hij,by omega,by omega⟩⟩
theorem mapOk_step {of_ ofQ:Nat→Option (Nat × Nat × Nat × Nat × Nat)} {acc accQ:Nat→Option Nat} {idx idxQ:Nat→Nat→Nat→Option Int} {lower lowerQ:Nat→Nat→Int→Option Nat} {value:Nat→Nat→Nat→Int→Option Nat}
    {p a off mult rb part:Nat} {i0 i1:Int} (e1:∀ a,of_ a=ofQ a) (e2:∀ g,acc g=accQ g) (e3:∀ o m v,idx o m v=idxQ o m v) (e4:∀ o m i,lower o m i=lowerQ o m i)
    (hval:∀ g o m i,value g o m i=(lower o m i).bind fun l=>(acc g).bind fun a=>(fadd 4607182418800017408 a).bind fun b=>fmul l b)
    (step:∀ {off mult:Nat} {c o:Int},FV mult c→FV off o→0<qv c→qv c≤128→0≤qv o→qv o≤128→∀ {x y:Nat},4499096027743125504≤x→x+4≤y→y≤4715268809856909312→∃ i j,idx off mult x=some i∧idx off mult y=some j∧i≤j)
    (tot:∀ {off mult:Nat} {c o:Int},FV mult c→FV off o→0<qv c→qv c≤128→0≤qv o→qv o≤128→∀ {x:Nat},4499096027743125504≤x→x≤4715268809856909312→∃ i,idx off mult x=some i)
    (par:parLook ofQ accQ (idxQ off mult) a off mult rb i0 i1=true) (fact:∀ i,i0≤i→i≤i1+1→FactK (lowerQ off mult) (lookC (idxQ off mult)) rb p i) (h01:i0≤i1)
    (hm:smallB mult=true) (ho:smallZ off=true) (hp:partLook p a part=true) (p1:1≤p) (p2:p≤50) (b0:-5000≤i0) (b1:i1≤5000):MapOk of_ acc idx lower value p:=by
  obtain ⟨g,mn,mx,ra,o1,o2,o3,o4,o45,o5,o6,o7,o8⟩:=parLook_is par
  obtain ⟨x,d1,d2,d3,d4⟩:=partLook_is hp
  obtain ⟨c,fm,c1,c2⟩:=smallB_is hm
  obtain ⟨o,fo,z1,z2⟩:=smallZ_is ho
  rw [← e1] at o1
  rw [← e2] at o2
  rw [← fadd_q] at o3
  rw [← flt_q] at o5
  refine ⟨a,g,off,mult,mn,mx,ra,part,x,d1,o1,o2,o4,o45,o5,?_,d2,d3,d4,?_⟩
  · rw [fgt_q]; exact o6
  intro v w v1 vw w2
  have hV:∀ i b V,lower off mult i=some b→qmul b rb=some V→value g off mult i=some V:=fun i b V hb hq=>by
    rw [← fmul_q] at hq
    rw [hval,hb,o2]
    show (fadd 4607182418800017408 ra).bind _=_
    rw [o3]
    exact hq
  have ei:idxQ off mult=idx off mult:=funext fun v=>(e3 off mult v).symm
  have el:lowerQ off mult=lower off mult:=funext fun v=>(e4 off mult v).symm
  rw [ei] at o7 o8
  rw [ei,el] at fact
  obtain ⟨L1,L2,L3⟩:=lies_cub (fun x y a b c=>step fm fo c1 c2 z1 z2 a b c) (fun x a b=>tot fm fo c1 c2 z1 z2 a b) fact h01 o7 o8 (by omega) (by omega) (by omega) v1 vw w2
  obtain ⟨-,-,k,l,ek,el',hkl⟩:=lies_cub (fun x y a b c=>step fm fo c1 c2 z1 z2 a b c) (fun x a b=>tot fm fo c1 c2 z1 z2 a b) fact h01 o7 o8 (by omega) (by omega) (by omega) (Nat.le_refl _) v1 (by omega)
  obtain ⟨-,-,m,n,em,en,hmn⟩:=lies_cub (fun x y a b c=>step fm fo c1 c2 z1 z2 a b c) (fun x a b=>tot fm fo c1 c2 z1 z2 a b) fact h01 o7 o8 (by omega) (by omega) (by omega) (show _≤w by omega) w2 (Nat.le_refl _)
  refine ⟨tells_of_lies hV L1 d4 p1 p2 v1 (by omega),tells_of_lies hV L2 d4 p1 p2 (by omega) w2,?_⟩
  obtain ⟨i,j,ei,ej,hij⟩:=L3
  rw [o7] at ek; cases ek
  rw [o8] at en; cases en
  rw [ei] at el'; cases el'
  rw [ej] at em; cases em
  exact ⟨_,_,ei,ej,hij,by omega,by omega⟩
end Go.Proofs.YtllaekopaglolaaGreat
end
