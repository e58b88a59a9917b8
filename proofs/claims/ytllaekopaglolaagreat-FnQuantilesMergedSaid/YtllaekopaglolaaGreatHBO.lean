/-
  Log for a fixed binade: how near the inner sum comes to the exact one.
-/
import Derived.Test.YtllaekopaglolaaGreatHBN
import Derived.Test.YtllaekopaglolaaGreatHAJ
section
namespace Go.Proofs.YtllaekopaglolaaGreat
open Go.RowKit
open Ieee
set_option exponentiation.threshold 5000
theorem zV5:∃ a,FV 4602678819172646912 a∧qv a=1 / 2:=by
  refine ⟨_,zB2 false (m:=4503599627370496) (e:=1021) (by decide) (by decide) (by decide),?_⟩
  have h:=zC9 false 4503599627370496 1021 53 9007199254740992 (by decide) (by rw [show (2:Nat)^53=9007199254740992 from by decide]; rfl)
  simp only [Bool.false_eq_true,if_false] at h
  have e:((4503599627370496:Nat):Rat)=4503599627370496:=rfl
  rw [e] at h
  grind
def cLo:Int:=PV false 7382048951581814 989
theorem zW9:FV 4461442080421002358 cLo:=zB2 false (m:=7382048951581814) (e:=989) (by decide) (by decide) (by decide)
theorem zW8:0≤qv cLo∧qv cLo≤1 / 4000000000:=by
  have h:=zC9 false 7382048951581814 989 85 38685626227668133590597632 (by decide) (by rw [show (2:Nat)^85=38685626227668133590597632 from by decide]; rfl)
  simp only [Bool.false_eq_true,if_false] at h
  have e:((7382048951581814:Nat):Rat)=7382048951581814:=rfl
  rw [e] at h
  have:qv cLo=qv (PV false 7382048951581814 989):=rfl
  rw [this]
  constructor <;> grind
def cHi:Int:=PV false 6243314766446592 1021
theorem zXI:FV 4604418534311723008 cHi:=zB2 false (m:=6243314766446592) (e:=1021) (by decide) (by decide) (by decide)
theorem zXH:0≤qv cHi∧qv cHi≤7 / 10:=by
  have h:=zC9 false 6243314766446592 1021 53 9007199254740992 (by decide) (by rw [show (2:Nat)^53=9007199254740992 from by decide]; rfl)
  simp only [Bool.false_eq_true,if_false] at h
  have e:((6243314766446592:Nat):Rat)=6243314766446592:=rfl
  rw [e] at h
  have:qv cHi=qv (PV false 6243314766446592 1021):=rfl
  rw [this]
  constructor <;> grind
attribute [irreducible] cLo cHi
theorem zBS {x y c:Rat} (hc:0<c) (h:x*c≤y*c):x≤y:=by
  refine Rat.not_lt.1 fun hlt=>?_
  have:=Rat.mul_lt_mul_of_pos_right hlt hc
  grind
def zKa (t:Rat):Rat:=2*t+t*zFo (t*t)
set_option maxHeartbeats 4000000 in
theorem zOD {xf xk:Nat} {G k:Int} {f:Rat} (hf:FV xf G) (hq:qv G=f) (f1:-(293 / 1000)≤f) (f2:f≤4143 / 10000) (hbig:G≠0→2^1000≤G.natAbs) (hk:FV xk k) (k1:-30≤qv k) (k2:qv k≤30) :
    ∃ d s s2 s4 a1 a2 a3 a4 a5 a6 t1 b1 b2 b3 b4 t2 R c1 h g1 g2 g3 g4 g5 g6 g7 r G6,fadd 4611686018427387904 xf=some d∧fdiv xf d=some s∧fmul s s=some s2∧fmul s2 s2=some s4∧fmul s4 4594499633228436036=some a1∧fadd 4595719342595441630 a1=some a2∧fmul s4 a2=some a3∧fadd 4598818590951641945 a3=some a4∧fmul s4 a4=some a5∧fadd 4604180019048437139 a5=some a6∧fmul s2 a6=some t1 ∧
      fmul s4 4594685411790997151=some b1∧fadd 4597174411056806063 b1=some b2∧fmul s4 b2=some b3∧fadd 4600877379321592324 b3=some b4∧fmul s4 b4=some t2∧fadd t1 t2=some R∧fmul 4602678819172646912 xf=some c1∧fmul c1 xf=some h ∧
      fmul xk 4604418534311723008=some g1∧fadd h R=some g2∧fmul s g2=some g3∧fmul xk 4461442080421002358=some g4∧fadd g3 g4=some g5∧fsub h g5=some g6∧fsub g6 xf=some g7∧fsub g1 g7=some r ∧
      FV r (rndI 0 (rndI 1074 (k*cHi) - rndI 0 (G6 - G)))∧Near (qv G6) (f - zKa (f / (2+f)) - qv (rndI 1074 (k*cLo))) (43 / 100 / 9007199254740992) ∧ -64≤qv (rndI 0 (rndI 1074 (k*cHi) - rndI 0 (G6 - G)))∧qv (rndI 0 (rndI 1074 (k*cHi) - rndI 0 (G6 - G)))≤64:=by
  obtain ⟨B20,B19,B18,B17,B16,B15,B11,B10,B9⟩:=zOq
  obtain ⟨b0,b1n,b2n,b3n,b4n,b5n,b6n,b7n,b13n,b14n,b15n⟩:=zIa
  have hO:=zGK 2 1074 rfl (by decide)
  have qO:=zCI 2 1074 rfl
  have ho2:floatOfInt .f64 2=4611686018427387904:=by decide +kernel
  rw [ho2] at hO
  have qO':qv (2*2^1074)=2:=by rw [qO]; rfl
  obtain ⟨xd,gd,fd,nd,nd'⟩:=zHY 1023 hO hf (by decide) (by rw [qO',hq,b2n]; grind) (by rw [qO',hq,b2n]; grind)
  rw [qO',hq,b2n] at nd nd'
  generalize rndI 0 (2*2^1074+G)=D at *
  clear hO qO qO' ho2
  have hDq1:17 / 10≤qv D:=by grind
  have hDq2:qv D≤25 / 10:=by grind
  have e0:qv 0=0:=by unfold qv; simp
  have hD0:0<D:=zEU (by rw [e0]; grind)
  have hDn:D.natAbs<2^(1023+53):=zH7 (K:=1023) (by rw [b2n]; grind) (by rw [b2n]; grind)
  obtain ⟨xs,S,gs,fs,ns1,ns2⟩:=zW6 1019 hf fd hD0 (by decide) (fun h0=>by
    have h1:=hbig h0
    have h2:2^60*D.natAbs≤2^60*2^(1023+53):=Nat.mul_le_mul_left _ (Nat.le_of_lt hDn)
    have h3:2^1000*2^1074≤G.natAbs*2^1074:=Nat.mul_le_mul_right _ h1
    rw [← Nat.pow_add] at h2 h3
    have h4:(2:Nat)^(60+(1023+53))≤2^(1000+1074):=Nat.pow_le_pow_right (by decide) (by decide)
    exact Nat.le_trans h2 (Nat.le_trans h4 h3)) (by rw [hq,B19]; grind) (by rw [hq,B19]; grind)
  rw [hq,B19] at ns1 ns2
  clear hDn hD0 hbig
  obtain ⟨t,ht⟩:∃ t,t=f / (2+f):=⟨_,rfl⟩
  have hc0:0<2+f:=by grind
  have htf:t*(2+f)=f:=by rw [ht]; grind
  rw [← ht]
  clear ht
  have sq4:-(26 / 100)≤qv S∧qv S≤26 / 100:=by
    constructor
    · refine zBS (c:=qv D) (by grind) ?_
      grind
    · refine zBS (c:=qv D) (by grind) ?_
      grind
  obtain ⟨sq1,sq2⟩:=sq4
  have hds:=zAu sq1 sq2 (show -(2 / 9007199254740992)≤qv D - (2+f) by grind) (show qv D - (2+f)≤2 / 9007199254740992 by grind)
  obtain ⟨hds1,hds2⟩:=hds
  have nS:Near (qv S) t (101 / 100 / 9007199254740992):=by
    constructor
    · refine zBS (c:=2+f) hc0 ?_
      grind
    · refine zBS (c:=2+f) hc0 ?_
      grind
  have t1:-(43 / 250)≤t:=by
    refine zBS (c:=2+f) hc0 ?_
    grind
  have t2:t≤43 / 250:=by
    refine zBS (c:=2+f) hc0 ?_
    grind
  clear hds1 hds2 sq1 sq2 ns1 ns2 nd nd' hDq1 hDq2
  obtain ⟨z2,z4,y1,y2,y3,y4,y5,y6,yt1,x1,x2,x3,x4,yt2,zR,R,r1,r2,r3,r4,r5,r6,r7,r8,r9,r10,r11,r12,r13,r14,r15,fR,nR,R1,R2⟩:=zXh fs nS t1 t2
  have sb:-(173 / 1000)≤qv S∧qv S≤173 / 1000:=by obtain ⟨a,b⟩:=nS; constructor <;> grind
  obtain ⟨P,hP⟩:∃ P,P=zFo (t*t):=⟨_,rfl⟩
  rw [← hP] at nR R1 R2
  have hX:zKa t=2*t+t*P:=by unfold zKa; rw [hP]
  rw [hX]
  clear hP hX
  obtain ⟨aH,fH,qH⟩:=zV5
  have nf:Near (qv G) f 0:=by rw [hq]; exact zBs f
  obtain ⟨c1,gc1,fc1,nc1⟩:=zBw 1019 (1 / 4) (1 / 8 / 9007199254740992) (by decide) B19 fH hf (zBs _) nf (bA:=1 / 2) (bB:=4143 / 10000) (by rw [qH]; grind) (by rw [qH]; grind) (by rw [hq]; grind) (by rw [hq]; grind) (by grind) (by grind)
  rw [qH] at nc1
  generalize rndI 1074 (aH*G)=vc1 at *
  obtain ⟨h,gh,fh,nh⟩:=zBw 1018 (1 / 8) (12 / 100 / 9007199254740992) (by decide) B18 fc1 hf nc1 nf (bA:=2072 / 10000) (bB:=4143 / 10000) (by grind) (by grind) (by rw [hq]; grind) (by rw [hq]; grind) (by grind) (by grind)
  generalize rndI 1074 (vc1*G)=vh at *
  obtain ⟨H,hH⟩:∃ H,H=1 / 2*f*f:=⟨_,rfl⟩
  rw [← hH] at nh
  have H1:0≤H:=by rw [hH]; have:=zO3 f; grind
  have H2:H≤8583 / 100000:=by
    rw [hH]
    have:=zAu (show -(4143 / 10000)≤f by grind) f2 (show -(4143 / 10000)≤f by grind) f2
    grind
  obtain ⟨g2,gg2,fg2,ng2⟩:=zC7 1018 (1 / 8) (50 / 100 / 9007199254740992) (by decide) B18 fh fR nh nR (by grind) (by grind) (by grind)
  generalize rndI 0 (vh+R)=vg2 at *
  have vg2b:-(108 / 1000)≤qv vg2∧qv vg2≤108 / 1000:=by obtain ⟨a,b⟩:=ng2; constructor <;> grind
  obtain ⟨g3,gg3,fg3,ng3⟩:=zBw 1016 (1 / 32) (22 / 100 / 9007199254740992) (by decide) B16 fs fg2 nS ng2 t1 t2 vg2b.1 vg2b.2 (by grind) (by grind)
  generalize rndI 1074 (S*vg2)=vg3 at *
  have hlo:=zW8
  have pk:=zAu (show -30≤qv k by grind) k2 (show -(1 / 4000000000)≤qv cLo by grind) hlo.2
  obtain ⟨g4,gg4,fg4,n4a,n4b⟩:=zGM 1011 hk zW9 (by decide) (by rw [B11]; grind) (by rw [B11]; grind)
  rw [B11] at n4a n4b
  generalize rndI 1074 (k*cLo)=vg4 at *
  have g4b:-(1 / 10000000)≤qv vg4∧qv vg4≤1 / 10000000:=by constructor <;> grind
  have tb:=zAu t1 t2 (show -(10683 / 100000)≤H+P by grind) (show H+P≤10683 / 100000 by grind)
  obtain ⟨g5,gg5,fg5,ng5⟩:=zC7 1016 (1 / 32) (24 / 100 / 9007199254740992) (by decide) B16 fg3 fg4 ng3 (zBs _) (by grind) (by grind) (by grind)
  generalize rndI 0 (vg3+vg4)=vg5 at *
  obtain ⟨g6,gg6,fg6,ng6⟩:=zTq 1018 (1 / 8) (43 / 100 / 9007199254740992) (by decide) B18 fh fg5 nh ng5 (by grind) (by grind) (by grind)
  generalize rndI 0 (vh - vg5)=vg6 at *
  have ident:H - (t*(H+P)+qv vg4)=f - (2*t+t*P) - qv vg4:=by
    rw [hH]; grind
  rw [ident] at ng6
  have xb:=zAu t1 t2 (show -(21 / 1000)≤P by grind) R2
  obtain ⟨g7,gg7,fg7,m1,m2⟩:=zHT 1021 fg6 hf (by decide) (by rw [hq,b0]; obtain ⟨a,b⟩:=ng6; grind) (by rw [hq,b0]; obtain ⟨a,b⟩:=ng6; grind)
  rw [hq,b0] at m1 m2
  have hhi:=zXH
  have pk2:=zAu (show -30≤qv k by grind) k2 (show -(7 / 10)≤qv cHi by grind) hhi.2
  obtain ⟨g1,gg1,fg1,o1,o2⟩:=zGM 1026 hk zXI (by decide) (by rw [b5n]; grind) (by rw [b5n]; grind)
  rw [b5n] at o1 o2
  have v7b:-(1 / 2)≤qv (rndI 0 (vg6 - G))∧qv (rndI 0 (vg6 - G))≤1 / 2:=by
    obtain ⟨a,b⟩:=ng6
    constructor <;> grind
  obtain ⟨v7a,v7c⟩:=v7b
  obtain ⟨r,gr,fr,p1,p2⟩:=zHT 1026 fg1 fg7 (by decide) (by rw [b5n]; grind) (by rw [b5n]; grind)
  rw [b5n] at p1 p2
  refine ⟨xd,xs,z2,z4,y1,y2,y3,y4,y5,y6,yt1,x1,x2,x3,x4,yt2,zR,c1,h,g1,g2,g3,g4,g5,g6,g7,r,vg6,gd,gs,r1,r2,r3,r4,r5,r6,r7,r8,r9,r10,r11,r12,r13,r14,r15,gc1,gh,gg1,gg2,gg3,gg4,gg5,gg6,gg7,gr,fr,ng6,?_,?_⟩
  · grind
  · grind
end Go.Proofs.YtllaekopaglolaaGreat
end
/-
  Log in one binade keeps the order.
-/
section
namespace Go.Proofs.YtllaekopaglolaaGreat
open Go.RowKit
open Ieee
set_option exponentiation.threshold 5000
theorem zBY {a a' b b':Rat} (a0:0≤a) (h1:a≤a') (b0:0≤b) (h2:b≤b'):0≤a*b∧a*b≤a'*b':=by
  have p1:=Rat.mul_nonneg a0 b0
  have p2:=Rat.mul_nonneg (show 0≤a' - a by grind) (show 0≤b' by grind)
  have p3:=Rat.mul_nonneg a0 (show 0≤b' - b by grind)
  constructor <;> grind
theorem zEQ {w v:Rat} (w0:0≤w) (h:w≤v):0≤zFo w∧zFo w≤zFo v:=by
  have hL:0≤qv cL1∧0≤qv cL2∧0≤qv cL3∧0≤qv cL4∧0≤qv cL5∧0≤qv cL6∧0≤qv cL7:=by
    rw [zKC,zKB,zKA,zJ9,zJ8,zOg,zOf]
    refine ⟨?_,?_,?_,?_,?_,?_,?_⟩ <;> grind
  obtain ⟨l1,l2,l3,l4,l5,l6,l7⟩:=hL
  unfold zFo
  generalize qv cL1=L1 at *
  generalize qv cL2=L2 at *
  generalize qv cL3=L3 at *
  generalize qv cL4=L4 at *
  generalize qv cL5=L5 at *
  generalize qv cL6=L6 at *
  generalize qv cL7=L7 at *
  obtain ⟨q0,q1⟩:=zBY w0 h w0 h
  generalize w*w=q at *
  generalize v*v=p at *
  obtain ⟨a0,a1⟩:=zBY q0 q1 l7 (show L7≤L7 by grind)
  obtain ⟨b0,b1⟩:=zBY q0 q1 (show 0≤L5+q*L7 by grind) (show L5+q*L7≤L5+p*L7 by grind)
  obtain ⟨c0,c1⟩:=zBY q0 q1 (show 0≤L3+q*(L5+q*L7) by grind) (show L3+q*(L5+q*L7)≤L3+p*(L5+p*L7) by grind)
  obtain ⟨d0,d1⟩:=zBY w0 h (show 0≤L1+q*(L3+q*(L5+q*L7)) by grind) (show L1+q*(L3+q*(L5+q*L7))≤L1+p*(L3+p*(L5+p*L7)) by grind)
  obtain ⟨e0,e1⟩:=zBY q0 q1 l6 (show L6≤L6 by grind)
  obtain ⟨g0,g1⟩:=zBY q0 q1 (show 0≤L4+q*L6 by grind) (show L4+q*L6≤L4+p*L6 by grind)
  obtain ⟨i0,i1⟩:=zBY q0 q1 (show 0≤L2+q*(L4+q*L6) by grind) (show L2+q*(L4+q*L6)≤L2+p*(L4+p*L6) by grind)
  constructor <;> grind
theorem zSB {s t:Rat} (h:s≤t):s*zFo (s*s)≤t*zFo (t*t):=by
  by_cases hs:0≤s
  · obtain ⟨_,q1⟩:=zBY hs h hs h
    obtain ⟨p0,p1⟩:=zEQ (zO3 s) q1
    exact (zBY hs h p0 p1).2
  · have ps:=(zEQ (zO3 s) (show s*s≤s*s by grind)).1
    have pt:=(zEQ (zO3 t) (show t*t≤t*t by grind)).1
    by_cases ht:0≤t
    · have a:=Rat.mul_nonneg ht pt
      have b:=Rat.mul_nonneg (show 0 ≤ -s by grind) ps
      grind
    · have hn:-t ≤ -s:=by grind
      have h0:0 ≤ -t:=by grind
      obtain ⟨_,q1⟩:=zBY h0 hn h0 hn
      have q2:t*t≤s*s:=by grind
      obtain ⟨p0,p1⟩:=zEQ (zO3 t) q2
      have:=(zBY h0 hn p0 p1).2
      grind
theorem zO9 {s t:Rat} (h:s≤t):2*(t - s)≤zKa t - zKa s:=by
  have:=zSB h
  unfold zKa
  grind
def zWU (G k V:Int):Prop:=∃ G6,V=rndI 0 (rndI 1074 (k*cHi) - rndI 0 (G6 - G))∧Near (qv G6) (qv G - zKa (qv G / (2+qv G)) - qv (rndI 1074 (k*cLo))) (43 / 100 / 9007199254740992)
theorem zQb {G G' k V V':Int} (h:zWU G k V) (h':zWU G' k V') (f1:-(293 / 1000)≤qv G) (f2:qv G'≤4143 / 10000)
    (hgap:(qv G'≤0∧1 / 9007199254740992≤qv G' - qv G)∨2 / 9007199254740992≤qv G' - qv G):V≤V':=by
  obtain ⟨A,rfl,a1,a2⟩:=h
  obtain ⟨B,rfl,b1,b2⟩:=h'
  have hgp:0≤qv G' - qv G:=by rcases hgap with h | h <;> grind
  have hA:qv (A - G)=qv A - qv G:=zNt A G
  have hB:qv (B - G')=qv B - qv G':=zNt B G'
  generalize qv G=f at *
  generalize qv G'=g at *
  have c1:0<2+f:=by grind
  have c2:0<2+g:=by grind
  obtain ⟨s,hs⟩:∃ s,s=f / (2+f):=⟨_,rfl⟩
  obtain ⟨t,ht⟩:∃ t,t=g / (2+g):=⟨_,rfl⟩
  have es:s*(2+f)=f:=by rw [hs]; grind
  have et:t*(2+g)=g:=by rw [ht]; grind
  rw [← hs] at a1 a2
  rw [← ht] at b1 b2
  clear hs ht
  have hC:0<(2+f)*(2+g):=Rat.mul_pos c1 c2
  have hd:(t - s)*((2+f)*(2+g))=2*(g - f):=by grind
  have hst:s≤t:=by
    refine zBS hC ?_
    grind
  have hx:=zO9 hst
  have key:43 / 100 / 9007199254740992≤t - s:=by
    refine zBS hC ?_
    rw [hd]
    rcases hgap with ⟨h1,h2⟩ | h2
    · have hb:=(zBY (show 0≤2+f by grind) (show 2+f≤2 by grind) (show 0≤2+g by grind) (show 2+g≤2 by grind)).2
      generalize (2+f)*(2+g)=C at *
      grind
    · have hb:=(zBY (show 0≤2+f by grind) (show 2+f≤24143 / 10000 by grind) (show 0≤2+g by grind) (show 2+g≤24143 / 10000 by grind)).2
      generalize (2+f)*(2+g)=C at *
      grind
  have hle:qv (B - G')≤qv (A - G):=by
    rw [hA,hB]
    grind
  have h7:=zCX 0 (zGf hle)
  exact zCX 0 (by omega)
end Go.Proofs.YtllaekopaglolaaGreat
end
/-
  Log,of all floats from 2^-24 to 2^24: it is told,and keeps the order.
-/
section
namespace Go.Proofs.YtllaekopaglolaaGreat
open Go.RowKit
open Ieee
set_option exponentiation.threshold 5000
def logG (x:Nat):Int:=if x % 4503599627370496<1865452045155277 then 2*((x % 4503599627370496:Nat):Int) else ((x % 4503599627370496:Nat):Int) - 4503599627370496
def logK (x:Nat):Int:=if x % 4503599627370496<1865452045155277 then ((x / 4503599627370496:Nat):Int) - 1023 else ((x / 4503599627370496:Nat):Int) - 1022
theorem zFm (g:Int) (J:Nat) (hJ:J=1021):qv (g*2^J)=(g:Rat) / 9007199254740992:=by
  have h:=zGp (J+53) (by omega)
  rw [Nat.pow_add,Rat.natCast_mul] at h
  have e53:((2^53:Nat):Rat)=9007199254740992:=by rw [show (2:Nat)^53=9007199254740992 from by decide]; rfl
  rw [e53] at h
  unfold qv
  rw [zBL,Rat.intCast_mul,Rat.intCast_natCast]
  grind
theorem zQW {x:Nat} (h1:4503599627370496≤x) (h2:x<9142307245003341824):zA7 x=true∧fgt x 9218868437227405311=false∧flt x 0=false∧feq x 0=false∧zEF x=some (x % 4503599627370496+4602678819172646912,((x / 4503599627370496:Nat):Int) - 1022):=by
  have hp:posB x=true:=by
    unfold posB
    rw [Bool.and_eq_true]
    exact ⟨Nat.ble_eq_true_of_le h1,by rw [Nat.blt_eq]; exact h2⟩
  have hx:=zDv h1 (by omega)
  have hpv:=zOl (m:=4503599627370496+x % 4503599627370496) (e:=x / 4503599627370496 - 1) (by omega)
  refine ⟨zDC hx,?_,?_,?_,?_⟩
  · rw [zEu]
    unfold qgt qlt
    rw [zDf hp,show finB 9218868437227405311=true from by decide,Bool.and_self,cond_true,cond_true,show Nat.ble 9223372036854775808 9218868437227405311=false from by decide,cond_false,zBo,decide_eq_false (by omega),cond_false,zBP,decide_eq_false (by omega)]
  · rw [zBD hx zA0]; exact decide_eq_false (by omega)
  · rw [zGO hx zA0]; exact decide_eq_false (by omega)
  · rw [zFv]
    unfold zGA
    rw [hp,cond_true,zAq]
    have:Int.subNatNat (Nat.div x 4503599627370496) 1022=((x / 4503599627370496:Nat):Int) - 1022:=by
      rw [Int.subNatNat_eq_coe]; rfl
    rw [this]
    rfl
theorem zVv {f M:Nat} (hM1:4503599627370496≤M) (hM2:M<9007199254740992) (hf:FV f (PV false M 1021)):fmul f 4611686018427387904=some (enB false M 1022):=by
  have hT:FV 4611686018427387904 (PV false 4503599627370496 1023):=zDv (x:=4611686018427387904) (by decide) (by decide)
  have hl:M.log2=52:=by
    refine (Nat.log2_eq_iff (by omega)).2 ⟨?_,?_⟩
    · have:(2:Nat)^52=4503599627370496:=by decide
      omega
    · have:(2:Nat)^(52+1)=9007199254740992:=by decide
      omega
  have h52:(2:Nat)^52=4503599627370496:=by decide
  have hn:M*4503599627370496≠0:=by omega
  have hlog:(M*4503599627370496).log2=104:=by
    rw [← h52,zAX _ _ (by omega),hl]
  have hv:=zOm false false M 4503599627370496 1021 1023
  rw [Bool.xor_self,show 1021+1023=2044 from rfl] at hv
  obtain ⟨z,hz,hzf⟩:=zCQ hf hT (by rw [hv,zDZ,zAX _ _ (by omega),hlog]; omega)
  rw [hv,zGz 1074 false _ _ 2096 hn (by rw [hlog]) (by omega)] at hzf
  obtain ⟨q,hq⟩:∃ q,q=2044:=⟨_,rfl⟩
  have e1:M*4503599627370496*2^2044=M*2^2096:=by
    rw [← hq,show 2096=52+q from by omega,Nat.pow_add 2 52,h52,Nat.mul_assoc]
  rw [e1,zBe,show 2096 - 1074=1022 from rfl] at hzf
  show floatBits .mul .f64 f 4611686018427387904=_
  rw [hz,zGL hzf hM1 (by omega)]
theorem zHI {x:Nat} (h1:4499096027743125504≤x) (h2:x≤4715268809856909312) (J:Nat) (hJ:J=1021) :
    ∃ z V,logF x=some z∧FV z V∧zWU (logG x*2^J) (logK x*2^(53+J)) V ∧ -64≤qv V∧qv V≤64:=by
  obtain ⟨b0,b1,b2,b3,b4,b5,b6,b7,b13,b14,b15⟩:=zIa
  obtain ⟨p1,p2,p3,p4,p5⟩:=zQW (x:=x) (by omega) (by omega)
  have n1:need (zA7 x)=some ():=by rw [p1]; rfl
  have n2:need (!(fgt x 9218868437227405311))=some ():=by rw [p2]; rfl
  have n3:need (!(flt x 0))=some ():=by rw [p3]; rfl
  have n4:need (!(feq x 0))=some ():=by rw [p4]; rfl
  have hm:=Nat.mod_lt x (show 0<4503599627370496 by decide)
  have hO:=zGK 1 (53+J) (by omega) (by decide)
  have ho1:floatOfInt .f64 1=4607182418800017408:=by decide +kernel
  rw [ho1] at hO
  have qO:qv (1*2^(53+J))=1:=by rw [zCI 1 (53+J) (by omega)]; rfl
  have hkb:-30≤logK x∧logK x≤30:=by unfold logK; split <;> constructor <;> omega
  have hK:=zGK (logK x) (53+J) (by omega) (by omega)
  have qK:=zCI (logK x) (53+J) (by omega)
  have k1:-30≤qv (logK x*2^(53+J)):=by rw [qK]; have:=Rat.intCast_le_intCast.2 hkb.1; exact this
  have k2:qv (logK x*2^(53+J))≤30:=by rw [qK]; have:=Rat.intCast_le_intCast.2 hkb.2; exact this
  have hgb:-2638147582215219≤logG x∧logG x≤3730904090310552:=by unfold logG; split <;> constructor <;> omega
  have qG:=zFm (logG x) J hJ
  have g1:(-2638147582215219:Rat)≤(logG x:Rat):=by have:=Rat.intCast_le_intCast.2 hgb.1; exact this
  have g2:(logG x:Rat)≤3730904090310552:=by have:=Rat.intCast_le_intCast.2 hgb.2; exact this
  have hbig:logG x*2^J≠0→2^1000≤(logG x*2^J).natAbs:=fun h=>by
    have h0:logG x≠0:=fun e=>by rw [e,Int.zero_mul] at h; exact h rfl
    rw [zBL,Int.natAbs_mul,Int.natAbs_natCast]
    have a:1*2^J≤(logG x).natAbs*2^J:=Nat.mul_le_mul_right _ (by omega)
    have b:2^1000≤2^J:=Nat.pow_le_pow_right (by decide) (by omega)
    omega
  obtain ⟨f0,hf0⟩:∃ f0,f0=x % 4503599627370496+4602678819172646912:=⟨_,rfl⟩
  rw [← hf0] at p5
  have fv0:FV f0 (PV false (4503599627370496+x % 4503599627370496) 1021):=by
    have:=zDv (x:=f0) (by omega) (by omega)
    rw [hf0,show (x % 4503599627370496+4602678819172646912) % 4503599627370496=x % 4503599627370496 from by omega,show (x % 4503599627370496+4602678819172646912) / 4503599627370496 - 1=1021 from by omega,← hf0] at this
    exact this
  have eP:PV false (4503599627370496+x % 4503599627370496) 1021=((4503599627370496+x % 4503599627370496:Nat):Int)*2^J:=by
    rw [← hJ]; unfold PV; rw [zBL,Int.natCast_mul]; simp
  have fv0':=fv0
  rw [eP] at fv0
  have fvc:FV 4604544271217802189 (((6369051672525773:Nat):Int)*2^J):=by
    have:=zDv (x:=4604544271217802189) (by decide) (by decide)
    have e:PV false (4503599627370496+4604544271217802189 % 4503599627370496) (4604544271217802189 / 4503599627370496 - 1)=((6369051672525773:Nat):Int)*2^J:=by
      rw [show 4503599627370496+4604544271217802189 % 4503599627370496=6369051672525773 from by decide,show 4604544271217802189 / 4503599627370496 - 1=1021 from by decide,← hJ]
      unfold PV; rw [zBL,Int.natCast_mul]; simp
    rwa [e] at this
  have hpJ:(0:Int)<2^J:=Int.pow_pos (by decide)
  have hlt:flt f0 4604544271217802189=decide (x % 4503599627370496<1865452045155277):=by
    rw [zBD fv0 fvc,decide_eq_decide]
    constructor
    · intro h
      have:=Int.lt_of_mul_lt_mul_right h (Int.le_of_lt hpJ)
      omega
    · intro h
      exact Int.mul_lt_mul_of_pos_right (by omega) hpJ
  by_cases hc:x % 4503599627370496<1865452045155277
  · -- below the root: twice
    have hG:logG x=2*((x % 4503599627370496:Nat):Int):=by unfold logG; rw [if_pos hc]
    have hKx:logK x=((x / 4503599627370496:Nat):Int) - 1023:=by unfold logK; rw [if_pos hc]
    have hT:=zGK 2 (53+J) (by omega) (by decide)
    have ho2:floatOfInt .f64 2=4611686018427387904:=by decide +kernel
    rw [ho2] at hT
    have qT:qv (2*2^(53+J))=2:=by rw [zCI 2 (53+J) (by omega)]; rfl
    have q0:=zFm ((4503599627370496+x % 4503599627370496:Nat):Int) J hJ
    have m1:(0:Rat)≤(((4503599627370496+x % 4503599627370496:Nat):Int):Rat):=by
      have:=Rat.intCast_le_intCast.2 (show (0:Int)≤((4503599627370496+x % 4503599627370496:Nat):Int) by omega); exact this
    have m2:(((4503599627370496+x % 4503599627370496:Nat):Int):Rat)≤9007199254740992:=by
      have:=Rat.intCast_le_intCast.2 (show ((4503599627370496+x % 4503599627370496:Nat):Int)≤9007199254740992 by omega); exact this
    obtain ⟨f1,hf1⟩:∃ f1,f1=x % 4503599627370496+4607182418800017408:=⟨_,rfl⟩
    have fv1:FV f1 (((4503599627370496+x % 4503599627370496:Nat):Int)*2^(1+J)):=by
      have:=zDv (x:=f1) (by omega) (by omega)
      rw [hf1,show (x % 4503599627370496+4607182418800017408) % 4503599627370496=x % 4503599627370496 from by omega,show (x % 4503599627370496+4607182418800017408) / 4503599627370496 - 1=1022 from by omega,← hf1] at this
      have e:PV false (4503599627370496+x % 4503599627370496) 1022=((4503599627370496+x % 4503599627370496:Nat):Int)*2^(1+J):=by
        rw [show 1+J=1022 from by omega]; unfold PV; rw [zBL,Int.natCast_mul]; simp
      rwa [e] at this
    have gm:fmul f0 4611686018427387904=some f1:=by
      have:=zVv (M:=4503599627370496+x % 4503599627370496) (by omega) (by omega) fv0'
      rw [this]
      have e:enB false (4503599627370496+x % 4503599627370496) 1022=f1:=by unfold enB; rw [cond_false,hf1]; omega
      rw [e]
    have q1:=zFm (((4503599627370496+x % 4503599627370496:Nat):Int)*2) J hJ
    have e1:((4503599627370496+x % 4503599627370496:Nat):Int)*2^(1+J)=((4503599627370496+x % 4503599627370496:Nat):Int)*2*2^J:=by
      rw [Int.pow_add,show (2:Int)^1=2 from rfl,Int.mul_assoc]
    rw [e1] at fv1
    have q2:(((((4503599627370496+x % 4503599627370496:Nat):Int)*2:Int)):Rat)=2*(((4503599627370496+x % 4503599627370496:Nat):Int):Rat):=by rw [Rat.intCast_mul,Rat.mul_comm]; rfl
    obtain ⟨zf,gf,ff,-⟩:=zHT 1027 fv1 hO (by decide) (by rw [q1,q2,qO,b6]; grind) (by rw [q1,q2,qO,b6]; grind)
    have ef:((4503599627370496+x % 4503599627370496:Nat):Int)*2*2^J - 1*2^(53+J)=logG x*2^J:=by
      rw [hG,Int.pow_add,show (2:Int)^53=9007199254740992 from by decide,Int.one_mul,← Int.sub_mul]
      congr 1
      omega
    rw [ef,zB1 _ J (by omega)] at ff
    obtain ⟨d,s,s2,s4,a1,a2,a3,a4,a5,a6,t1,y1,y2,y3,y4,t2,R,c1,h,g1',g2',g3,g4,g5,g6,g7,r,G6,w1,w2,w3,w4,w5,w6,w7,w8,w9,w10,w11,w12,w13,w14,w15,w16,w17,w18,w19,w20,w21,w22,w23,w24,w25,w26,w27,fr,nr,v1,v2⟩:=zOD ff rfl (by rw [qG]; grind) (by rw [qG]; grind) hbig hK k1 k2
    refine ⟨r,_,?_,fr,⟨G6,rfl,nr⟩,v1,v2⟩
    have hk1:wrap64 (((x / 4503599627370496:Nat):Int) - 1022 - 1)=logK x:=by rw [hKx]; unfold wrap64; omega
    have n6:need (flt f0 4604544271217802189)=some ():=by rw [hlt,decide_eq_true hc]; rfl
    have hk1':some (wrap64 (((x / 4503599627370496:Nat):Int) - 1022 - 1))=some (logK x):=by rw [hk1]
    have hlow:zDF x=some r:=by
      unfold zDF
      simp only [Option.bind_eq_some_iff,Prod.exists]
      exact ⟨(),n1,(),n2,(),n3,(),n4,f0,_,p5,(),n6,f1,gm,logK x,hk1',zf,gf,_,rfl,d,w1,s,w2,s2,w3,s4,w4,a1,w5,a2,w6,a3,w7,a4,w8,a5,w9,a6,w10,t1,w11,y1,w12,y2,w13,y3,w14,y4,w15,t2,w16,R,w17,c1,w18,h,w19,g1',w20,g2',w21,g3,w22,g4,w23,g5,w24,g6,w25,g7,w26,r,w27,rfl⟩
    unfold logF
    rw [hlow,Option.some_or]
  · -- above
    have hG:logG x=((x % 4503599627370496:Nat):Int) - 4503599627370496:=by unfold logG; rw [if_neg hc]
    have hKx:logK x=((x / 4503599627370496:Nat):Int) - 1022:=by unfold logK; rw [if_neg hc]
    have q0:=zFm ((4503599627370496+x % 4503599627370496:Nat):Int) J hJ
    have m1:(0:Rat)≤(((4503599627370496+x % 4503599627370496:Nat):Int):Rat):=by
      have:=Rat.intCast_le_intCast.2 (show (0:Int)≤((4503599627370496+x % 4503599627370496:Nat):Int) by omega); exact this
    have m2:(((4503599627370496+x % 4503599627370496:Nat):Int):Rat)≤9007199254740992:=by
      have:=Rat.intCast_le_intCast.2 (show ((4503599627370496+x % 4503599627370496:Nat):Int)≤9007199254740992 by omega); exact this
    obtain ⟨zf,gf,ff,-⟩:=zHT 1027 fv0 hO (by decide) (by rw [q0,qO,b6]; grind) (by rw [q0,qO,b6]; grind)
    have ef:((4503599627370496+x % 4503599627370496:Nat):Int)*2^J - 1*2^(53+J)=logG x*2^J:=by
      rw [hG,Int.pow_add,show (2:Int)^53=9007199254740992 from by decide,Int.one_mul,← Int.sub_mul]
      congr 1
      omega
    rw [ef,zB1 _ J (by omega)] at ff
    obtain ⟨d,s,s2,s4,a1,a2,a3,a4,a5,a6,t1,y1,y2,y3,y4,t2,R,c1,h,g1',g2',g3,g4,g5,g6,g7,r,G6,w1,w2,w3,w4,w5,w6,w7,w8,w9,w10,w11,w12,w13,w14,w15,w16,w17,w18,w19,w20,w21,w22,w23,w24,w25,w26,w27,fr,nr,v1,v2⟩:=zOD ff rfl (by rw [qG]; grind) (by rw [qG]; grind) hbig hK k1 k2
    refine ⟨r,_,?_,fr,⟨G6,rfl,nr⟩,v1,v2⟩
    have n6:need (flt f0 4604544271217802189)=none:=by rw [hlt,decide_eq_false hc]; rfl
    have n7:need (!(flt f0 4604544271217802189))=some ():=by rw [hlt,decide_eq_false hc]; rfl
    have hlow:zDF x=none:=by
      cases hz:zDF x with
      | none=>rfl
      | some r0 =>
        exfalso
        unfold zDF at hz
        simp only [Option.bind_eq_some_iff,Prod.exists] at hz
        obtain ⟨_,_,_,_,_,_,_,_,f0',k0',e5,_,e6,_⟩:=hz
        rw [p5] at e5
        simp only [Option.some.injEq,Prod.mk.injEq] at e5
        rw [← e5.1,n6] at e6
        cases e6
    have hhigh:zDj x=some r:=by
      unfold zDj
      simp only [Option.bind_eq_some_iff,Prod.exists]
      exact ⟨(),n1,(),n2,(),n3,(),n4,f0,_,by rw [p5,← hKx],(),n7,zf,gf,_,rfl,d,w1,s,w2,s2,w3,s4,w4,a1,w5,a2,w6,a3,w7,a4,w8,a5,w9,a6,w10,t1,w11,y1,w12,y2,w13,y3,w14,y4,w15,t2,w16,R,w17,c1,w18,h,w19,g1',w20,g2',w21,g3,w22,g4,w23,g5,w24,g6,w25,g7,w26,r,w27,rfl⟩
    unfold logF
    rw [hlow,hhigh,Option.none_or]
end Go.Proofs.YtllaekopaglolaaGreat
end
/-
  The logarithmic mapping's index: it is told for all floats from 2^-24 to 2^24; greater ones have no lesser index.
-/
section
namespace Go.Proofs.YtllaekopaglolaaGreat
open Go.RowKit
open Ieee
set_option exponentiation.threshold 5000
def LogV (x:Nat) (V:Int):Prop:=∃ z,logF x=some z∧FV z V
theorem LogV.unique {x:Nat} {V V':Int} (h:LogV x V) (h':LogV x V'):V=V':=by
  obtain ⟨z,hz,hf⟩:=h
  obtain ⟨z',hz',hf'⟩:=h'
  rw [hz] at hz'
  cases hz'
  have a:=zBD hf hf'
  have b:=zBD hf' hf
  have c:=zBD hf hf
  obtain ⟨-,s,m,i,r,v⟩:=hf
  obtain ⟨-,s',m',i',r',v'⟩:=hf'
  rw [r] at r'
  cases r'
  rw [← v,← v']
theorem zOC {x y:Nat} {V V':Int} (h1:4499096027743125504≤x) (hxy:x<y) (h2:y≤4715268809856909312) (hb:(x - 1865452045155277) / 4503599627370496=(y - 1865452045155277) / 4503599627370496) (hV:LogV x V) (hV':LogV y V'):V≤V':=by
  obtain ⟨J,hJ⟩:∃ J,J=1021:=⟨_,rfl⟩
  obtain ⟨z,W,a1,a2,a3,-,-⟩:=zHI h1 (by omega) J hJ
  obtain ⟨z',W',b1,b2,b3,-,-⟩:=zHI (x:=y) (by omega) h2 J hJ
  have e1:=hV.unique ⟨z,a1,a2⟩
  have e2:=hV'.unique ⟨z',b1,b2⟩
  rw [e1,e2]
  clear hV hV' a1 a2 b1 b2 e1 e2
  have hk:logK x=logK y:=by unfold logK; split <;> split <;> omega
  rw [hk] at a3
  have qx:=zFm (logG x) J hJ
  have qy:=zFm (logG y) J hJ
  have hgx:-2638147582215219≤logG x:=by unfold logG; split <;> omega
  have hgy:logG y≤3730904090310552:=by unfold logG; split <;> omega
  have hg:(logG y≤0∧logG x+1≤logG y)∨logG x+2≤logG y:=by
    unfold logG
    split <;> split <;> omega
  have r1:(-2638147582215219:Rat)≤(logG x:Rat):=by have:=Rat.intCast_le_intCast.2 hgx; exact this
  have r2:(logG y:Rat)≤3730904090310552:=by have:=Rat.intCast_le_intCast.2 hgy; exact this
  refine zQb a3 b3 (by rw [qx]; grind) (by rw [qy]; grind) ?_
  rw [qx,qy]
  rcases hg with ⟨g1,g2⟩ | g2
  · have s1:(logG y:Rat)≤0:=by have:=Rat.intCast_le_intCast.2 g1; exact this
    have s2:(logG x:Rat)+1≤(logG y:Rat):=by have:=Rat.intCast_le_intCast.2 g2; rw [Rat.intCast_add] at this; exact this
    exact .inl ⟨by grind,by grind⟩
  · have s2:(logG x:Rat)+2≤(logG y:Rat):=by have:=Rat.intCast_le_intCast.2 g2; rw [Rat.intCast_add] at this; exact this
    exact .inr (by grind)
def bp (b:Nat):Nat:=1865452045155277+(b+1)*4503599627370496 - 1
def zFL (x:Nat):Bool :=
  match logQ x,logQ (x+1) with
  | some u,some v=>qle u v
  | _,_=>false
def zEW (n:Nat):Bool:=match n with | 0=>true | n+1=>zFL (bp (998+n))&&zEW n
theorem zMx:zEW 48=true:=by decide +kernel
theorem zIo (n:Nat) (h:zEW n=true) (i:Nat) (hi:i<n):zFL (bp (998+i))=true:=by
  induction n with
  | zero=>omega
  | succ n ih =>
    unfold zEW at h
    rw [Bool.and_eq_true] at h
    by_cases he:i=n
    · subst he; exact h.1
    · exact ih h.2 (by omega)
theorem zTJ {x:Nat} (h:zFL x=true) {V V':Int} (hV:LogV x V) (hV':LogV (x+1) V'):V≤V':=by
  obtain ⟨z,hz,hf⟩:=hV
  obtain ⟨z',hz',hf'⟩:=hV'
  rw [zQV] at hz hz'
  unfold zFL at h
  rw [hz,hz'] at h
  dsimp only at h
  rw [← zNH,zGN hf hf'] at h
  exact of_decide_eq_true h
theorem zXm (b:Nat):bp b=1865452045155277+(b+1)*4503599627370496 - 1:=rfl
attribute [irreducible] bp
theorem zQX {b:Nat} (h1:998≤b) (h2:b<1046) {V V':Int} (hV:LogV (bp b) V) (hV':LogV (bp b+1) V'):V≤V':=by
  have h:=zIo 48 zMx (b - 998) (by omega)
  have e:998+(b - 998)=b:=by omega
  rw [e] at h
  exact zTJ h hV hV'
theorem zSP {x:Nat} (h1:4499096027743125504≤x) (h2:x≤4715268809856909312):∃ V,LogV x V:=by
  obtain ⟨z,W,a1,a2,-⟩:=zHI h1 h2 1021 rfl
  exact ⟨W,z,a1,a2⟩
theorem zSO (n:Nat):∀ {x y:Nat} {V V':Int},4499096027743125504≤x→x≤y→y≤4715268809856909312→(y - 1865452045155277) / 4503599627370496 - (x - 1865452045155277) / 4503599627370496=n→LogV x V→LogV y V'→V≤V':=by
  induction n with
  | zero =>
    intro x y V V' h1 hxy h2 hn hV hV'
    have hle:(x - 1865452045155277) / 4503599627370496≤(y - 1865452045155277) / 4503599627370496:=Nat.div_le_div_right (by omega)
    by_cases he:x=y
    · subst he; rw [hV.unique hV']; exact Int.le_refl _
    · exact zOC h1 (by omega) h2 (by omega) hV hV'
  | succ n ih =>
    intro x y V V' h1 hxy h2 hn hV hV'
    obtain ⟨b,hb⟩:∃ b,b=(x - 1865452045155277) / 4503599627370496:=⟨_,rfl⟩
    have hb1:998≤b:=by omega
    have hb2:b<1046:=by omega
    have hp:=zXm b
    obtain ⟨p,hpp⟩:∃ p,p=bp b:=⟨_,rfl⟩
    rw [← hpp] at hp
    obtain ⟨U,hU⟩:=zSP (x:=p) (by omega) (by omega)
    obtain ⟨U',hU'⟩:=zSP (x:=p+1) (by omega) (by omega)
    have a1:V≤U:=by
      by_cases he:x=p
      · rw [← he] at hU; rw [hV.unique hU]; exact Int.le_refl _
      · exact zOC h1 (by omega) (by omega) (by omega) hV hU
    have a2:U≤U':=zQX hb1 hb2 (by rw [← hpp]; exact hU) (by rw [← hpp]; exact hU')
    have ep:(p+1 - 1865452045155277) / 4503599627370496=b+1:=by
      rw [hp,show 1865452045155277+(b+1)*4503599627370496 - 1+1 - 1865452045155277=(b+1)*4503599627370496 from by omega]
      exact Nat.mul_div_cancel _ (by decide)
    have en:(y - 1865452045155277) / 4503599627370496 - (p+1 - 1865452045155277) / 4503599627370496=n:=by
      rw [ep]
      rw [← hb] at hn
      generalize (y - 1865452045155277) / 4503599627370496=Y at hn
      omega
    have a3:U'≤V':=ih (x:=p+1) (by omega) (by omega) h2 en hU' hV'
    omega
theorem zNA {off mult:Nat} {c o:Int} (hm:FV mult c) (ho:FV off o) (c1:0<qv c) (c2:qv c≤128) (o1:0≤qv o) (o2:qv o≤128) {x y:Nat} (h1:4499096027743125504≤x) (h:x≤y) (h2:y≤4715268809856909312) :
    ∃ i j,zCv off mult x=some i∧zCv off mult y=some j∧i≤j:=by
  obtain ⟨K,hK⟩:∃ K,K=1074:=⟨_,rfl⟩
  obtain ⟨J,hJ⟩:∃ J,J=1021:=⟨_,rfl⟩
  have hc:0≤c:=by
    have e0:qv 0=0:=by unfold qv; simp
    have:=zEU (a:=0) (b:=c) (by rw [e0]; exact c1)
    omega
  obtain ⟨z,W,a1,a2,-,v1,v2⟩:=zHI h1 (by omega) J hJ
  obtain ⟨z',W',b1,b2,-,u1,u2⟩:=zHI (x:=y) (by omega) h2 J hJ
  obtain ⟨n,hn⟩:∃ n,(y - 1865452045155277) / 4503599627370496 - (x - 1865452045155277) / 4503599627370496=n:=⟨_,rfl⟩
  have hle:=zSO n h1 h h2 hn ⟨z,a1,a2⟩ ⟨z',b1,b2⟩
  refine ⟨_,_,?_,?_,zFh hc hle (K:=K) (o:=o)⟩
  · unfold zCv
    rw [a1]
    exact zE3 hK a2 hm ho v1 v2 c1 c2 o1 o2
  · unfold zCv
    rw [b1]
    exact zE3 hK b2 hm ho u1 u2 c1 c2 o1 o2
end Go.Proofs.YtllaekopaglolaaGreat
end
