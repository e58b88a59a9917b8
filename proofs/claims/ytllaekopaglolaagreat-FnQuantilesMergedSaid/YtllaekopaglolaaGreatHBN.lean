/-
  Closed looks at what a mapping is made of: what is looked at,and what it tells.
-/
import Derived.Test.YtllaekopaglolaaGreatHAJ
import Derived.Test.YtllaekopaglolaaGreatHAK
section
namespace Go.Proofs.YtllaekopaglolaaGreat
open Go.RowKit
open Ieee
def zEm (of:Nat→Option (Nat × Nat × Nat × Nat × Nat)) (acc:Nat→Option Nat) (idx:Nat→Option Int) (a off mult rb:Nat) (i0 i1:Int):Bool :=
  match of a with
  | some (g,o,m,mn,mx) =>
    Nat.beq o off&&(Nat.beq m mult&&(match acc g with
      | some ra=>(match qadd 4607182418800017408 ra with | some r=>Nat.beq r rb | none=>false)&&(match zDy ra a 4472406533629990549 with | some t=>t | none=>false)
      | none=>false)&&(posB mn&&finB mx&&qlt mn 4517329193108106637&&(qgt mx 4696837146684686336&&((match idx 4517329193108106637 with | some i=>decide (i=i0) | none=>false)&&(match idx 4696837146684686336 with | some i=>decide (i=i1) | none=>false)))))
  | none=>false
theorem zH8 {of:Nat→Option (Nat × Nat × Nat × Nat × Nat)} {acc:Nat→Option Nat} {idx:Nat→Option Int} {a off mult rb:Nat} {i0 i1:Int} (h:zEm of acc idx a off mult rb i0 i1=true) :
    ∃ g mn mx ra,of a=some (g,off,mult,mn,mx)∧acc g=some ra∧qadd 4607182418800017408 ra=some rb∧zDy ra a 4472406533629990549=some true∧(posB mn=true∧finB mx=true)∧qlt mn 4517329193108106637=true∧qgt mx 4696837146684686336=true∧idx 4517329193108106637=some i0∧idx 4696837146684686336=some i1:=by
  unfold zEm at h
  cases ho:of a with
  | none=>rw [ho] at h; cases h
  | some q =>
    obtain ⟨g,o,m,mn,mx⟩:=q
    rw [ho] at h
    dsimp only at h
    cases ha:acc g with
    | none=>rw [ha] at h; simp at h
    | some ra =>
      rw [ha] at h
      dsimp only at h
      cases hr:qadd 4607182418800017408 ra with
      | none=>rw [hr] at h; simp at h
      | some r =>
        cases hn:zDy ra a 4472406533629990549 with
        | none=>rw [hr,hn] at h; simp at h
        | some t =>
          cases h0:idx 4517329193108106637 with
          | none=>rw [hr,hn,h0] at h; simp at h
          | some j0 =>
            cases h1:idx 4696837146684686336 with
            | none=>rw [hr,hn,h0,h1] at h; simp at h
            | some j1 =>
              rw [hr,hn,h0,h1] at h
              simp only [Bool.and_eq_true,decide_eq_true_eq] at h
              obtain ⟨e1,⟨e2,e3,e4⟩,⟨⟨f1,f2⟩,e5⟩,e6,e7,e8⟩:=h
              have e1:=zBT e1
              have e2:=zBT e2
              have e3:=zBT e3
              subst e1 e2 e3 e4 e7 e8
              exact ⟨g,mn,mx,ra,rfl,ha,hr,hn,⟨f1,f2⟩,e5,e6,rfl,rfl⟩
end Go.Proofs.YtllaekopaglolaaGreat
end
/-
  Steps of an error analysis: sums and products of floats that are near some fractions.
-/
section
namespace Go.Proofs.YtllaekopaglolaaGreat
open Ieee
set_option exponentiation.threshold 5000
theorem zUK {x X y Y ex ey bX bY:Rat} (h1:Near x X ex) (h2:Near y Y ey) (x1:-bX≤X) (x2:X≤bX) (y1:-bY≤y) (y2:y≤bY):Near (x*y) (X*Y) (bY*ex+bX*ey):=by
  obtain ⟨a1,a2⟩:=h1
  obtain ⟨b1,b2⟩:=h2
  have p1:=Rat.mul_nonneg (show 0≤ex - (x - X) by grind) (show 0≤bY - y by grind)
  have p2:=Rat.mul_nonneg (show 0≤ex - (x - X) by grind) (show 0≤bY+y by grind)
  have p3:=Rat.mul_nonneg (show 0≤ex+(x - X) by grind) (show 0≤bY - y by grind)
  have p4:=Rat.mul_nonneg (show 0≤ex+(x - X) by grind) (show 0≤bY+y by grind)
  have q1:=Rat.mul_nonneg (show 0≤ey - (y - Y) by grind) (show 0≤bX - X by grind)
  have q2:=Rat.mul_nonneg (show 0≤ey - (y - Y) by grind) (show 0≤bX+X by grind)
  have q3:=Rat.mul_nonneg (show 0≤ey+(y - Y) by grind) (show 0≤bX - X by grind)
  have q4:=Rat.mul_nonneg (show 0≤ey+(y - Y) by grind) (show 0≤bX+X by grind)
  constructor <;> grind
theorem zPH {x X e b:Rat} (h:Near x X e) (x1:-b≤X) (x2:X≤b):-(b+e)≤x∧x≤b+e:=by
  obtain ⟨a1,a2⟩:=h
  constructor <;> grind
theorem zAu {x y bx by':Rat} (x1:-bx≤x) (x2:x≤bx) (y1:-by'≤y) (y2:y≤by'):-(bx*by')≤x*y∧x*y≤bx*by':=by
  have p1:=Rat.mul_nonneg (show 0≤bx - x by grind) (show 0≤by' - y by grind)
  have p2:=Rat.mul_nonneg (show 0≤bx - x by grind) (show 0≤by'+y by grind)
  have p3:=Rat.mul_nonneg (show 0≤bx+x by grind) (show 0≤by' - y by grind)
  have p4:=Rat.mul_nonneg (show 0≤bx+x by grind) (show 0≤by'+y by grind)
  constructor <;> grind
theorem zBw (K:Nat) {x y:Nat} {a b:Int} {A B ea eb bA bB:Rat} (Q e:Rat) (hK:K≤2000) (hQ:BB K=Q) (hx:FV x a) (hy:FV y b) (na:Near (qv a) A ea) (nb:Near (qv b) B eb)
    (A1:-bA≤A) (A2:A≤bA) (B1:-bB≤qv b) (B2:qv b≤bB) (hlt:(bA+ea)*bB<Q) (he:bB*ea+bA*eb+Q / 18014398509481984≤e) :
    ∃ z,fmul x y=some z∧FV z (rndI 1074 (a*b))∧Near (qv (rndI 1074 (a*b))) (A*B) e:=by
  obtain ⟨a1,a2⟩:=zPH na A1 A2
  obtain ⟨p1,p2⟩:=zAu a1 a2 B1 B2
  obtain ⟨z,hz,hf,n1,n2⟩:=zGM K hx hy hK (by rw [hQ]; grind) (by rw [hQ]; grind)
  obtain ⟨m1,m2⟩:=zUK na nb A1 A2 B1 B2
  rw [hQ] at n1 n2
  exact ⟨z,hz,hf,by grind,by grind⟩
theorem zC7 (K:Nat) {x y:Nat} {a b:Int} {A B ea eb:Rat} (Q e:Rat) (hK:K≤2000) (hQ:BB K=Q) (hx:FV x a) (hy:FV y b) (na:Near (qv a) A ea) (nb:Near (qv b) B eb)
    (s1:-Q<A+B - (ea+eb)) (s2:A+B+(ea+eb)<Q) (he:ea+eb+Q / 18014398509481984≤e) :
    ∃ z,fadd x y=some z∧FV z (rndI 0 (a+b))∧Near (qv (rndI 0 (a+b))) (A+B) e:=by
  obtain ⟨a1,a2⟩:=na
  obtain ⟨b1,b2⟩:=nb
  obtain ⟨z,hz,hf,n1,n2⟩:=zHY K hx hy hK (by rw [hQ]; grind) (by rw [hQ]; grind)
  rw [hQ] at n1 n2
  exact ⟨z,hz,hf,by grind,by grind⟩
theorem zTq (K:Nat) {x y:Nat} {a b:Int} {A B ea eb:Rat} (Q e:Rat) (hK:K≤2000) (hQ:BB K=Q) (hx:FV x a) (hy:FV y b) (na:Near (qv a) A ea) (nb:Near (qv b) B eb)
    (s1:-Q<A - B - (ea+eb)) (s2:A - B+(ea+eb)<Q) (he:ea+eb+Q / 18014398509481984≤e) :
    ∃ z,fsub x y=some z∧FV z (rndI 0 (a - b))∧Near (qv (rndI 0 (a - b))) (A - B) e:=by
  obtain ⟨a1,a2⟩:=na
  obtain ⟨b1,b2⟩:=nb
  obtain ⟨z,hz,hf,n1,n2⟩:=zHT K hx hy hK (by rw [hQ]; grind) (by rw [hQ]; grind)
  rw [hQ] at n1 n2
  exact ⟨z,hz,hf,by grind,by grind⟩
end Go.Proofs.YtllaekopaglolaaGreat
end
/-
  The cubically interpolated mapping's index: it is told for all floats from 2^-24 to 2^24; a float that is four or more above another one has no lesser index.
-/
section
namespace Go.Proofs.YtllaekopaglolaaGreat
open Go.RowKit
open Ieee
set_option exponentiation.threshold 5000
def zFF (a b c s:Rat):Rat:=((a*s+b)*s+c)*s
theorem zG4 {a b c s t:Rat} (ha:0≤a) (hst:s≤t) (ht:t≤1) (h1:3*a+b≤0) (h2:37 / 50≤3*a+2*b+c):37 / 50*(t - s)≤zFF a b c t - zFF a b c s:=by
  have e:zFF a b c t - zFF a b c s=(a*(t*t+s*t+s*s)+b*(t+s)+c)*(t - s):=by unfold zFF; grind
  rw [e]
  have hd:0≤t - s:=by grind
  refine Rat.mul_le_mul_of_nonneg_right ?_ hd
  have q0:0≤(t - s)*(t - s):=Rat.mul_nonneg hd hd
  have q1:0≤(2 - (t+s))*(2 - (t+s)):=Rat.mul_nonneg (by grind) (by grind)
  have q2:0≤(t*t+s*t+s*s) - 3*(t+s - 1):=by grind
  have q3:=Rat.mul_nonneg ha q2
  have q4:0 ≤ -(3*a+b)*(2 - (t+s)):=Rat.mul_nonneg (by grind) (by grind)
  grind
theorem zS7 {xa xb xc xs:Nat} {a b c S:Int} (hA:FV xa a) (hB:FV xb b) (hC:FV xc c) (hS:FV xs S) (a0:6 / 35 - 1 / 1000000≤qv a) (a2:qv a≤6 / 35+1 / 1000000) (b1:-(3 / 5+1 / 1000000)≤qv b) (b2:qv b ≤ -(3 / 5 - 1 / 1000000)) (c1:10 / 7 - 1 / 1000000≤qv c) (c2:qv c≤10 / 7+1 / 1000000) (s1:0≤qv S) (s2:qv S≤1) :
    ∃ z1 z2 z3 z4 z5,fmul xa xs=some z1∧fadd z1 xb=some z2∧fmul z2 xs=some z3∧fadd z3 xc=some z4∧fmul z4 xs=some z5 ∧
      FV z5 (rndI 1074 (rndI 0 (rndI 1074 (rndI 0 (rndI 1074 (a*S)+b)*S)+c)*S)) ∧
      Near (qv (rndI 1074 (rndI 0 (rndI 1074 (rndI 0 (rndI 1074 (a*S)+b)*S)+c)*S))) (zFF (qv a) (qv b) (qv c) (qv S)) (23 / 8 / 9007199254740992):=by
  have a1:0≤qv a:=by grind
  obtain ⟨b0,b1',b2',b3,b4,b5,b6,b7,b13,b14,b15⟩:=zIa
  have hh:∀ K,BB (K+1)=2*BB K:=zJG
  have t1:=hh 1020
  have t2:=hh 1019
  simp only [Nat.reduceAdd] at t1 t2
  have B20:BB 1020=1 / 2:=by grind
  have B19:BB 1019=1 / 4:=by grind
  clear hh t1 t2
  have p1:0≤qv a*qv S:=Rat.mul_nonneg a1 s1
  have p2:qv a*qv S≤qv a:=by
    have:=Rat.mul_le_mul_of_nonneg_left s2 a1
    grind
  obtain ⟨z1,g1,f1,n1,n1'⟩:=zGM 1019 hA hS (by decide) (by rw [B19]; grind) (by rw [B19]; grind)
  rw [B19] at n1 n1'
  obtain ⟨z2,g2,f2,n2,n2'⟩:=zHY 1021 f1 hB (by decide) (by rw [b0]; grind) (by rw [b0]; grind)
  rw [b0] at n2 n2'
  generalize hv1:rndI 1074 (a*S)=v1 at *
  generalize hv2:rndI 0 (v1+b)=v2 at *
  have e2:Near (qv v2) (qv a*qv S+qv b) (5 / 8 / 9007199254740992):=⟨by grind,by grind⟩
  obtain ⟨e2a,e2b⟩:=e2
  have p3:-(3 / 5+1 / 100000)≤qv v2:=by grind
  have p4:qv v2≤0:=by grind
  have err3:-(5 / 8 / 9007199254740992)≤qv v2*qv S - (qv a*qv S+qv b)*qv S∧qv v2*qv S - (qv a*qv S+qv b)*qv S≤5 / 8 / 9007199254740992:=by
    have d1:0≤(qv v2 - (qv a*qv S+qv b)+5 / 8 / 9007199254740992)*qv S:=Rat.mul_nonneg (by grind) s1
    have d2:0≤(5 / 8 / 9007199254740992 - (qv v2 - (qv a*qv S+qv b)))*qv S:=Rat.mul_nonneg (by grind) s1
    constructor <;> grind
  obtain ⟨e3a,e3b⟩:=err3
  have low3:-(9 / 20)≤(qv a*qv S+qv b)*qv S:=by
    have sq:0≤(1 - qv S)*(1 - qv S):=Rat.mul_nonneg (by grind) (by grind)
    have q1:0≤qv a*(qv S*qv S - 2*qv S+1):=Rat.mul_nonneg a1 (by grind)
    have q2:0≤(-(qv b) - 2*qv a)*(1 - qv S):=Rat.mul_nonneg (by grind) (by grind)
    grind
  have up3:(qv a*qv S+qv b)*qv S≤0:=by
    have:0 ≤ -(qv a*qv S+qv b)*qv S:=Rat.mul_nonneg (by grind) s1
    grind
  obtain ⟨z3,g3,f3,n3,n3'⟩:=zGM 1020 f2 hS (by decide) (by rw [B20]; grind) (by rw [B20]; grind)
  rw [B20] at n3 n3'
  generalize hv3:rndI 1074 (v2*S)=v3 at *
  obtain ⟨z4,g4,f4,n4,n4'⟩:=zHY 1022 f3 hC (by decide) (by rw [b1']; grind) (by rw [b1']; grind)
  rw [b1'] at n4 n4'
  generalize hv4:rndI 0 (v3+c)=v4 at *
  have e4a:-(15 / 8 / 9007199254740992)≤qv v4 - ((qv a*qv S+qv b)*qv S+qv c):=by grind
  have e4b:qv v4 - ((qv a*qv S+qv b)*qv S+qv c)≤15 / 8 / 9007199254740992:=by grind
  have err5:-(15 / 8 / 9007199254740992)≤qv v4*qv S - ((qv a*qv S+qv b)*qv S+qv c)*qv S∧qv v4*qv S - ((qv a*qv S+qv b)*qv S+qv c)*qv S≤15 / 8 / 9007199254740992:=by
    have d1:0≤(qv v4 - ((qv a*qv S+qv b)*qv S+qv c)+15 / 8 / 9007199254740992)*qv S:=Rat.mul_nonneg (by grind) s1
    have d2:0≤(15 / 8 / 9007199254740992 - (qv v4 - ((qv a*qv S+qv b)*qv S+qv c)))*qv S:=Rat.mul_nonneg (by grind) s1
    constructor <;> grind
  obtain ⟨e5a,e5b⟩:=err5
  have v4a:0≤qv v4:=by grind
  have v4b:qv v4≤3 / 2:=by grind
  have p5:0≤qv v4*qv S:=Rat.mul_nonneg v4a s1
  have p6:qv v4*qv S≤qv v4:=by
    have:=Rat.mul_le_mul_of_nonneg_left s2 v4a
    grind
  obtain ⟨z5,g5,f5,n5,n5'⟩:=zGM 1022 f4 hS (by decide) (by rw [b1']; grind) (by rw [b1']; grind)
  rw [b1'] at n5 n5'
  refine ⟨z1,z2,z3,z4,z5,g1,g2,g3,g4,g5,f5,?_,?_⟩
  · unfold zFF; grind
  · unfold zFF; grind
end Go.Proofs.YtllaekopaglolaaGreat
end
/-
  The cubic mapping's index: it is told for all floats from 2^-24 to 2^24; a float that is four or more above another one has no lesser index.
-/
section
namespace Go.Proofs.YtllaekopaglolaaGreat
open Go.RowKit
open Ieee
set_option exponentiation.threshold 5000
theorem zC9 (s:Bool) (m e t:Nat) (D:Rat) (h:e+t=1074) (hD:D=((2^t:Nat):Rat)):qv (PV s m e)*D=(if s then (-1:Rat) else 1)*(m:Rat):=by
  have h1:=zGp (e+t) h
  rw [Nat.pow_add,Rat.natCast_mul,← hD] at h1
  have e1:qv (PV s m e)=(if s then (-1:Rat) else 1)*((m:Rat)*((2^e:Nat):Rat)*uw):=by
    unfold qv PV
    cases s
    · rw [if_neg (by decide),if_neg (by decide),Int.one_mul,Rat.intCast_natCast,Rat.natCast_mul]; grind
    · rw [if_pos rfl,if_pos rfl,Int.neg_one_mul,Rat.intCast_neg,Rat.intCast_natCast,Rat.natCast_mul]; grind
  rw [e1]
  cases s
  · simp only [Bool.false_eq_true,if_false]; grind
  · simp only [if_true]; grind
def cA:Int:=PV false 6176365203250966 1019
def cB:Int:=PV true 5404319552844595 1021
def cC:Int:=PV false 6433713753386423 1022
theorem zXl:FV 4595344385493786390 cA:=zB2 false (m:=6176365203250966) (e:=1019) (by decide) (by decide) (by decide)
theorem zXk:FV 13826951575952896819 cB:=zB2 true (m:=5404319552844595) (e:=1021) (by decide) (by decide) (by decide)
theorem zXj:FV 4609112532926033335 cC:=zB2 false (m:=6433713753386423) (e:=1022) (by decide) (by decide) (by decide)
theorem zGW:qv cA=6176365203250966 / 36028797018963968:=by
  have h:=zC9 false 6176365203250966 1019 55 36028797018963968 (by decide) (by rw [show (2:Nat)^55=36028797018963968 from by decide]; rfl)
  simp only [Bool.false_eq_true,if_false] at h
  have:qv cA=qv (PV false 6176365203250966 1019):=rfl
  rw [this]
  have e:((6176365203250966:Nat):Rat)=6176365203250966:=rfl
  rw [e] at h
  grind
theorem zI8:qv cB = -(5404319552844595 / 9007199254740992):=by
  have h:=zC9 true 5404319552844595 1021 53 9007199254740992 (by decide) (by rw [show (2:Nat)^53=9007199254740992 from by decide]; rfl)
  simp only [if_true] at h
  have:qv cB=qv (PV true 5404319552844595 1021):=rfl
  rw [this]
  have e:((5404319552844595:Nat):Rat)=5404319552844595:=rfl
  rw [e] at h
  grind
theorem zQ2:qv cC=6433713753386423 / 4503599627370496:=by
  have h:=zC9 false 6433713753386423 1022 52 4503599627370496 (by decide) (by rw [show (2:Nat)^52=4503599627370496 from by decide]; rfl)
  simp only [Bool.false_eq_true,if_false] at h
  have:qv cC=qv (PV false 6433713753386423 1022):=rfl
  rw [this]
  have e:((6433713753386423:Nat):Rat)=6433713753386423:=rfl
  rw [e] at h
  grind
attribute [irreducible] cA cB cC
def cubY (S:Int):Int:=rndI 1074 (rndI 0 (rndI 1074 (rndI 0 (rndI 1074 (cA*S)+cB)*S)+cC)*S)
theorem qv_m (m J:Nat) (hJ:J=1022):qv ((m:Int)*2^J)=(m:Rat) / 4503599627370496:=by
  have h:=zC9 false m J 52 4503599627370496 (by omega) (by rw [show (2:Nat)^52=4503599627370496 from by decide]; rfl)
  have e:PV false m J=(m:Int)*2^J:=by unfold PV; rw [zBL,Int.natCast_mul]; simp
  rw [e] at h
  simp only [Bool.false_eq_true,if_false] at h
  grind
theorem zVT {xs m J:Nat} (hJ:J=1022) (hm:m≤4503599627370496) (hS:FV xs ((m:Int)*2^J)) :
    ∃ z1 z2 z3 z4 z5,fmul 4595344385493786390 xs=some z1∧fadd z1 13826951575952896819=some z2∧fmul z2 xs=some z3∧fadd z3 4609112532926033335=some z4∧fmul z4 xs=some z5 ∧
      FV z5 (cubY ((m:Int)*2^J))∧Near (qv (cubY ((m:Int)*2^J))) (zFF (qv cA) (qv cB) (qv cC) ((m:Rat) / 4503599627370496)) (23 / 8 / 9007199254740992):=by
  have hq:=qv_m m J hJ
  have m0:(0:Rat)≤(m:Rat):=Rat.natCast_nonneg
  have m1:(m:Rat)≤4503599627370496:=by
    have:=Rat.natCast_le_natCast.2 hm
    exact this
  have h:=zS7 zXl zXk zXj hS (by rw [zGW]; grind) (by rw [zGW]; grind) (by rw [zI8]; grind) (by rw [zI8]; grind) (by rw [zQ2]; grind) (by rw [zQ2]; grind) (by rw [hq]; grind) (by rw [hq]; grind)
  rw [hq] at h
  exact h
theorem zV9 (m J:Nat) (hJ:J=1022) (hm:m<4503599627370496):∃ x,FV x ((m:Int)*2^J):=by
  have e:(m:Int)*2^J=(if false then (-1:Int) else 1)*((m*2^((-52:Int)+1074+(0:Nat)).toNat:Nat):Int):=by
    rw [show ((-52:Int)+1074+(0:Nat)).toNat=J from by omega,zBL,Int.natCast_mul]; simp
  have hlt:((m:Int)*2^J).natAbs.log2<2090+0:=by
    rw [zBL,Int.natAbs_mul,Int.natAbs_natCast,Int.natAbs_natCast]
    by_cases h0:m=0
    · rw [h0,Nat.zero_mul]; decide
    · rw [zAX _ _ (Nat.pos_of_ne_zero h0)]
      have:m.log2<53:=(Nat.log2_lt h0).2 (by omega)
      omega
  have:=zDQ false m (-52) 0 _ (by decide) e hlt
  rw [zB1 (m:Int) J (by omega)] at this
  exact ⟨_,this⟩
theorem zFY {m J:Nat} (hJ:J=1022) (hm:m<4503599627370496):Near (qv (cubY ((m:Int)*2^J))) (zFF (qv cA) (qv cB) (qv cC) ((m:Rat) / 4503599627370496)) (23 / 8 / 9007199254740992):=by
  obtain ⟨x,hx⟩:=zV9 m J hJ hm
  obtain ⟨z1,z2,z3,z4,z5,_,_,_,_,_,_,h⟩:=zVT hJ (by omega) hx
  exact h
theorem zS8 {m n J:Nat} (hJ:J=1022) (h:m+4≤n) (hn:n<4503599627370496):cubY ((m:Int)*2^J)≤cubY ((n:Int)*2^J):=by
  obtain ⟨a1,a2⟩:=zFY hJ (show m<4503599627370496 by omega)
  obtain ⟨b1,b2⟩:=zFY hJ hn
  have m0:(0:Rat)≤(m:Rat):=Rat.natCast_nonneg
  have n1:(n:Rat)≤4503599627370496:=by
    have:=Rat.natCast_le_natCast.2 (show n≤4503599627370496 by omega)
    exact this
  have mn:(m:Rat)+4≤(n:Rat):=by
    have:=Rat.natCast_le_natCast.2 h
    rw [Rat.natCast_add] at this
    exact this
  have st:=zG4 (a:=qv cA) (b:=qv cB) (c:=qv cC) (s:=(m:Rat) / 4503599627370496) (t:=(n:Rat) / 4503599627370496) (by rw [zGW]; grind) (by grind) (by grind) (by rw [zGW,zI8]; grind) (by rw [zGW,zI8,zQ2]; grind)
  refine zGf ?_
  grind
end Go.Proofs.YtllaekopaglolaaGreat
end
/-
  Log's polynomial part: how near the floats come to it. (Printed by gen_monolog.py.)
-/
section
namespace Go.Proofs.YtllaekopaglolaaGreat
open Go.RowKit
open Ieee
set_option exponentiation.threshold 5000
def cL1:Int:=PV false 6004799503160723 1021
theorem zXG:FV 4604180019048437139 cL1:=zB2 false (m:=6004799503160723) (e:=1021) (by decide) (by decide) (by decide)
theorem zKC:qv cL1=6004799503160723 / 9007199254740992:=by
  have h:=zC9 false 6004799503160723 1021 53 9007199254740992 (by decide) (by rw [show (2:Nat)^53=9007199254740992 from by decide]; rfl)
  simp only [Bool.false_eq_true,if_false] at h
  have e:((6004799503160723:Nat):Rat)=6004799503160723:=rfl
  rw [e] at h
  show qv (PV false 6004799503160723 1021)=_
  grind
attribute [irreducible] cL1
def cL2:Int:=PV false 7205759403686404 1020
theorem zXF:FV 4600877379321592324 cL2:=zB2 false (m:=7205759403686404) (e:=1020) (by decide) (by decide) (by decide)
theorem zKB:qv cL2=7205759403686404 / 18014398509481984:=by
  have h:=zC9 false 7205759403686404 1020 54 18014398509481984 (by decide) (by rw [show (2:Nat)^54=18014398509481984 from by decide]; rfl)
  simp only [Bool.false_eq_true,if_false] at h
  have e:((7205759403686404:Nat):Rat)=7205759403686404:=rfl
  rw [e] at h
  show qv (PV false 7205759403686404 1020)=_
  grind
attribute [irreducible] cL2
def cL3:Int:=PV false 5146971033736025 1020
theorem zXE:FV 4598818590951641945 cL3:=zB2 false (m:=5146971033736025) (e:=1020) (by decide) (by decide) (by decide)
theorem zKA:qv cL3=5146971033736025 / 18014398509481984:=by
  have h:=zC9 false 5146971033736025 1020 54 18014398509481984 (by decide) (by rw [show (2:Nat)^54=18014398509481984 from by decide]; rfl)
  simp only [Bool.false_eq_true,if_false] at h
  have e:((5146971033736025:Nat):Rat)=5146971033736025:=rfl
  rw [e] at h
  show qv (PV false 5146971033736025 1020)=_
  grind
attribute [irreducible] cL3
def cL4:Int:=PV false 8006390766270639 1019
theorem zXD:FV 4597174411056806063 cL4:=zB2 false (m:=8006390766270639) (e:=1019) (by decide) (by decide) (by decide)
theorem zJ9:qv cL4=8006390766270639 / 36028797018963968:=by
  have h:=zC9 false 8006390766270639 1019 55 36028797018963968 (by decide) (by rw [show (2:Nat)^55=36028797018963968 from by decide]; rfl)
  simp only [Bool.false_eq_true,if_false] at h
  have e:((8006390766270639:Nat):Rat)=8006390766270639:=rfl
  rw [e] at h
  show qv (PV false 8006390766270639 1019)=_
  grind
attribute [irreducible] cL4
def cL5:Int:=PV false 6551322304906206 1019
theorem zXC:FV 4595719342595441630 cL5:=zB2 false (m:=6551322304906206) (e:=1019) (by decide) (by decide) (by decide)
theorem zJ8:qv cL5=6551322304906206 / 36028797018963968:=by
  have h:=zC9 false 6551322304906206 1019 55 36028797018963968 (by decide) (by rw [show (2:Nat)^55=36028797018963968 from by decide]; rfl)
  simp only [Bool.false_eq_true,if_false] at h
  have e:((6551322304906206:Nat):Rat)=6551322304906206:=rfl
  rw [e] at h
  show qv (PV false 6551322304906206 1019)=_
  grind
attribute [irreducible] cL5
def cL6:Int:=PV false 5517391500461727 1019
theorem zXB:FV 4594685411790997151 cL6:=zB2 false (m:=5517391500461727) (e:=1019) (by decide) (by decide) (by decide)
theorem zOg:qv cL6=5517391500461727 / 36028797018963968:=by
  have h:=zC9 false 5517391500461727 1019 55 36028797018963968 (by decide) (by rw [show (2:Nat)^55=36028797018963968 from by decide]; rfl)
  simp only [Bool.false_eq_true,if_false] at h
  have e:((5517391500461727:Nat):Rat)=5517391500461727:=rfl
  rw [e] at h
  show qv (PV false 5517391500461727 1019)=_
  grind
attribute [irreducible] cL6
def cL7:Int:=PV false 5331612937900612 1019
theorem zXA:FV 4594499633228436036 cL7:=zB2 false (m:=5331612937900612) (e:=1019) (by decide) (by decide) (by decide)
theorem zOf:qv cL7=5331612937900612 / 36028797018963968:=by
  have h:=zC9 false 5331612937900612 1019 55 36028797018963968 (by decide) (by rw [show (2:Nat)^55=36028797018963968 from by decide]; rfl)
  simp only [Bool.false_eq_true,if_false] at h
  have e:((5331612937900612:Nat):Rat)=5331612937900612:=rfl
  rw [e] at h
  show qv (PV false 5331612937900612 1019)=_
  grind
attribute [irreducible] cL7
theorem zOq:BB 1020=1 / 2∧BB 1019=1 / 4∧BB 1018=1 / 8∧BB 1017=1 / 16∧BB 1016=1 / 32∧BB 1015=1 / 64∧BB 1011=1 / 1024∧BB 1010=1 / 2048∧BB 1009=1 / 4096:=by
  have h0:=zOr 1021 rfl
  have h:∀ K,BB (K+1)=2*BB K:=zJG
  have a1:=h 1020; have a2:=h 1019; have a3:=h 1018; have a4:=h 1017; have a5:=h 1016; have a6:=h 1015; have a7:=h 1014; have a8:=h 1013; have a9:=h 1012; have a10:=h 1011; have a11:=h 1010; have a12:=h 1009
  simp only [Nat.reduceAdd] at a1 a2 a3 a4 a5 a6 a7 a8 a9 a10 a11 a12
  refine ⟨?_,?_,?_,?_,?_,?_,?_,?_,?_⟩ <;> grind
theorem zO3 (x:Rat):0≤x*x:=by
  by_cases h:0≤x
  · exact Rat.mul_nonneg h h
  · have:=Rat.mul_nonneg (show 0 ≤ -x by grind) (show 0 ≤ -x by grind)
    grind
theorem zBs (x:Rat):Near x x 0:=⟨by grind,by grind⟩
def zFo (w:Rat):Rat:=w*(qv cL1+w*w*(qv cL3+w*w*(qv cL5+w*w*qv cL7)))+w*w*(qv cL2+w*w*(qv cL4+w*w*qv cL6))
set_option maxHeartbeats 4000000 in
theorem zXh {xs:Nat} {s:Int} {t:Rat} (hs:FV xs s) (ns:Near (qv s) t (101 / 100 / 9007199254740992)) (t1:-(43 / 250)≤t) (t2:t≤43 / 250) :
    ∃ z2 z4 y1 y2 y3 y4 y5 y6 yt1 x1 x2 x3 x4 yt2 zR R,fmul xs xs=some z2∧fmul z2 z2=some z4∧fmul z4 4594499633228436036=some y1∧fadd 4595719342595441630 y1=some y2∧fmul z4 y2=some y3∧fadd 4598818590951641945 y3=some y4∧fmul z4 y4=some y5∧fadd 4604180019048437139 y5=some y6∧fmul z2 y6=some yt1 ∧
      fmul z4 4594685411790997151=some x1∧fadd 4597174411056806063 x1=some x2∧fmul z4 x2=some x3∧fadd 4600877379321592324 x3=some x4∧fmul z4 x4=some yt2∧fadd yt1 yt2=some zR∧FV zR R∧Near (qv R) (zFo (t*t)) (31 / 100 / 9007199254740992)∧0≤zFo (t*t)∧zFo (t*t)≤21 / 1000:=by
  obtain ⟨B20,B19,B18,B17,B16,B15,B11,B10,B9⟩:=zOq
  have B21:=zOr 1021 rfl
  have sb:-(173 / 1000)≤qv s∧qv s≤173 / 1000:=by obtain ⟨a,b⟩:=ns; constructor <;> grind
  obtain ⟨sb1,sb2⟩:=sb
  obtain ⟨z2,g2,f2,n2⟩:=zBw 1016 (1 / 32) (37 / 100 / 9007199254740992) (by decide) B16 hs hs ns ns t1 t2 sb1 sb2 (by grind) (by grind)
  generalize rndI 1074 (s*s)=v2 at *
  obtain ⟨w,hw⟩:∃ w,w=t*t:=⟨_,rfl⟩
  rw [← hw] at n2
  have w1:0≤w:=by rw [hw]; exact zO3 t
  have w2:w≤297 / 10000:=by rw [hw]; obtain ⟨_,h⟩:=zAu t1 t2 t1 t2; grind
  have vb2:-(298 / 10000)≤qv v2∧qv v2≤298 / 10000:=by obtain ⟨a,b⟩:=n2; constructor <;> grind
  obtain ⟨vb2a,vb2b⟩:=vb2
  obtain ⟨z4,g4,f4,n4⟩:=zBw 1011 (1 / 1024) (23 / 1000 / 9007199254740992) (by decide) B11 f2 f2 n2 n2 (by grind:-(297 / 10000)≤w) w2 vb2a vb2b (by grind) (by grind)
  generalize rndI 1074 (v2*v2)=v4 at *
  obtain ⟨q,hq⟩:∃ q,q=w*w:=⟨_,rfl⟩
  rw [← hq] at n4
  have q1:0≤q:=by rw [hq]; exact Rat.mul_nonneg w1 w1
  have q2:q≤883 / 1000000:=by rw [hq]; obtain ⟨_,h⟩:=zAu (by grind:-(297 / 10000)≤w) w2 (by grind:-(297 / 10000)≤w) w2; grind
  have vb4:-(884 / 1000000)≤qv v4∧qv v4≤884 / 1000000:=by obtain ⟨a,b⟩:=n4; constructor <;> grind
  obtain ⟨vb4a,vb4b⟩:=vb4
  have y1c1:-(3 / 20)≤qv cL7:=by rw [zOf]; grind
  have y1c2:qv cL7≤(3 / 20):=by rw [zOf]; grind
  obtain ⟨y1,gy1,fy1,ny1⟩:=zBw 1009 (1 / 4096) (4 / 1000 / 9007199254740992) (by decide) B9 f4 zXA n4 (zBs _) (by grind:-(883 / 1000000)≤q) q2 y1c1 y1c2 (by grind) (by grind)
  generalize rndI 1074 (v4*cL7)=vy1 at *
  have Py1:0≤q*qv cL7:=Rat.mul_nonneg q1 (by rw [zOf]; grind)
  have Qy1:q*qv cL7≤133 / 1000000:=by
    obtain ⟨_,h⟩:=zAu (by grind:-(883 / 1000000)≤q) q2 y1c1 y1c2
    grind
  obtain ⟨y2,gy2,fy2,ny2⟩:=zC7 1019 (1 / 4) (130 / 1000 / 9007199254740992) (by decide) B19 zXC fy1 (zBs _) ny1 (by rw [zJ8]; grind) (by rw [zJ8]; grind) (by grind)
  generalize rndI 0 (cL5+vy1)=vy2 at *
  obtain ⟨Ey2,hEy2⟩:∃ E,E=qv cL5+q*qv cL7:=⟨_,rfl⟩
  rw [← hEy2] at ny2
  have Ey2a:0≤Ey2:=by rw [hEy2,zJ8]; grind
  have Ey2b:Ey2≤(183 / 1000):=by rw [hEy2,zJ8]; grind
  have vy2b:-((183 / 1000)+1 / 1000)≤qv vy2∧qv vy2≤(183 / 1000)+1 / 1000:=by obtain ⟨a,b⟩:=ny2; constructor <;> grind
  obtain ⟨y3,gy3,fy3,ny3⟩:=zBw 1009 (1 / 4096) (5 / 1000 / 9007199254740992) (by decide) B9 f4 fy2 n4 ny2 (by grind:-(883 / 1000000)≤q) q2 vy2b.1 vy2b.2 (by grind) (by grind)
  generalize rndI 1074 (v4*vy2)=vy3 at *
  have Py3:0≤q*Ey2:=Rat.mul_nonneg q1 (by grind)
  have Qy3:q*Ey2≤163 / 1000000:=by
    obtain ⟨_,h⟩:=zAu (by grind:-(883 / 1000000)≤q) q2 (by grind:-(183 / 1000)≤Ey2) (by grind:Ey2≤183 / 1000)
    grind
  obtain ⟨y4,gy4,fy4,ny4⟩:=zC7 1020 (1 / 2) (256 / 1000 / 9007199254740992) (by decide) B20 zXE fy3 (zBs _) ny3 (by rw [zKA]; grind) (by rw [zKA]; grind) (by grind)
  generalize rndI 0 (cL3+vy3)=vy4 at *
  obtain ⟨Ey4,hEy4⟩:∃ E,E=qv cL3+q*Ey2:=⟨_,rfl⟩
  rw [← hEy4] at ny4
  have Ey4a:0≤Ey4:=by rw [hEy4,zKA]; grind
  have Ey4b:Ey4≤(287 / 1000):=by rw [hEy4,zKA]; grind
  have vy4b:-((287 / 1000)+1 / 1000)≤qv vy4∧qv vy4≤(287 / 1000)+1 / 1000:=by obtain ⟨a,b⟩:=ny4; constructor <;> grind
  obtain ⟨y5,gy5,fy5,ny5⟩:=zBw 1010 (1 / 2048) (8 / 1000 / 9007199254740992) (by decide) B10 f4 fy4 n4 ny4 (by grind:-(883 / 1000000)≤q) q2 vy4b.1 vy4b.2 (by grind) (by grind)
  generalize rndI 1074 (v4*vy4)=vy5 at *
  have Py5:0≤q*Ey4:=Rat.mul_nonneg q1 (by grind)
  have Qy5:q*Ey4≤254 / 1000000:=by
    obtain ⟨_,h⟩:=zAu (by grind:-(883 / 1000000)≤q) q2 (by grind:-(287 / 1000)≤Ey4) (by grind:Ey4≤287 / 1000)
    grind
  obtain ⟨y6,gy6,fy6,ny6⟩:=zC7 1021 (1) (509 / 1000 / 9007199254740992) (by decide) B21 zXG fy5 (zBs _) ny5 (by rw [zKC]; grind) (by rw [zKC]; grind) (by grind)
  generalize rndI 0 (cL1+vy5)=vy6 at *
  obtain ⟨Ey6,hEy6⟩:∃ E,E=qv cL1+q*Ey4:=⟨_,rfl⟩
  rw [← hEy6] at ny6
  have Ey6a:0≤Ey6:=by rw [hEy6,zKC]; grind
  have Ey6b:Ey6≤(667 / 1000):=by rw [hEy6,zKC]; grind
  have vy6b:-((667 / 1000)+1 / 1000)≤qv vy6∧qv vy6≤(667 / 1000)+1 / 1000:=by obtain ⟨a,b⟩:=ny6; constructor <;> grind
  obtain ⟨yt1,gyt1,fyt1,nyt1⟩:=zBw 1016 (1 / 32) (281 / 1000 / 9007199254740992) (by decide) B16 f2 fy6 n2 ny6 (by grind:-(297 / 10000)≤w) w2 vy6b.1 vy6b.2 (by grind) (by grind)
  generalize rndI 1074 (v2*vy6)=vyt1 at *
  have Pyt1:0≤w*Ey6:=Rat.mul_nonneg w1 (by grind)
  have Qyt1:w*Ey6≤199 / 10000:=by
    obtain ⟨_,h⟩:=zAu (by grind:-(297 / 10000)≤w) w2 (by grind:-(667 / 1000)≤Ey6) (by grind:Ey6≤667 / 1000)
    grind
  have x1c1:-(4 / 25)≤qv cL6:=by rw [zOg]; grind
  have x1c2:qv cL6≤(4 / 25):=by rw [zOg]; grind
  obtain ⟨x1,gx1,fx1,nx1⟩:=zBw 1009 (1 / 4096) (4 / 1000 / 9007199254740992) (by decide) B9 f4 zXB n4 (zBs _) (by grind:-(883 / 1000000)≤q) q2 x1c1 x1c2 (by grind) (by grind)
  generalize rndI 1074 (v4*cL6)=vx1 at *
  have Px1:0≤q*qv cL6:=Rat.mul_nonneg q1 (by rw [zOg]; grind)
  have Qx1:q*qv cL6≤142 / 1000000:=by
    obtain ⟨_,h⟩:=zAu (by grind:-(883 / 1000000)≤q) q2 x1c1 x1c2
    grind
  obtain ⟨x2,gx2,fx2,nx2⟩:=zC7 1019 (1 / 4) (130 / 1000 / 9007199254740992) (by decide) B19 zXD fx1 (zBs _) nx1 (by rw [zJ9]; grind) (by rw [zJ9]; grind) (by grind)
  generalize rndI 0 (cL4+vx1)=vx2 at *
  obtain ⟨Ex2,hEx2⟩:∃ E,E=qv cL4+q*qv cL6:=⟨_,rfl⟩
  rw [← hEx2] at nx2
  have Ex2a:0≤Ex2:=by rw [hEx2,zJ9]; grind
  have Ex2b:Ex2≤(223 / 1000):=by rw [hEx2,zJ9]; grind
  have vx2b:-((223 / 1000)+1 / 1000)≤qv vx2∧qv vx2≤(223 / 1000)+1 / 1000:=by obtain ⟨a,b⟩:=nx2; constructor <;> grind
  obtain ⟨x3,gx3,fx3,nx3⟩:=zBw 1009 (1 / 4096) (6 / 1000 / 9007199254740992) (by decide) B9 f4 fx2 n4 nx2 (by grind:-(883 / 1000000)≤q) q2 vx2b.1 vx2b.2 (by grind) (by grind)
  generalize rndI 1074 (v4*vx2)=vx3 at *
  have Px3:0≤q*Ex2:=Rat.mul_nonneg q1 (by grind)
  have Qx3:q*Ex2≤198 / 1000000:=by
    obtain ⟨_,h⟩:=zAu (by grind:-(883 / 1000000)≤q) q2 (by grind:-(223 / 1000)≤Ex2) (by grind:Ex2≤223 / 1000)
    grind
  obtain ⟨x4,gx4,fx4,nx4⟩:=zC7 1020 (1 / 2) (257 / 1000 / 9007199254740992) (by decide) B20 zXF fx3 (zBs _) nx3 (by rw [zKB]; grind) (by rw [zKB]; grind) (by grind)
  generalize rndI 0 (cL2+vx3)=vx4 at *
  obtain ⟨Ex4,hEx4⟩:∃ E,E=qv cL2+q*Ex2:=⟨_,rfl⟩
  rw [← hEx4] at nx4
  have Ex4a:0≤Ex4:=by rw [hEx4,zKB]; grind
  have Ex4b:Ex4≤(401 / 1000):=by rw [hEx4,zKB]; grind
  have vx4b:-((401 / 1000)+1 / 1000)≤qv vx4∧qv vx4≤(401 / 1000)+1 / 1000:=by obtain ⟨a,b⟩:=nx4; constructor <;> grind
  obtain ⟨yt2,gyt2,fyt2,nyt2⟩:=zBw 1010 (1 / 2048) (11 / 1000 / 9007199254740992) (by decide) B10 f4 fx4 n4 nx4 (by grind:-(883 / 1000000)≤q) q2 vx4b.1 vx4b.2 (by grind) (by grind)
  generalize rndI 1074 (v4*vx4)=vyt2 at *
  have Pyt2:0≤q*Ex4:=Rat.mul_nonneg q1 (by grind)
  have Qyt2:q*Ex4≤355 / 1000000:=by
    obtain ⟨_,h⟩:=zAu (by grind:-(883 / 1000000)≤q) q2 (by grind:-(401 / 1000)≤Ex4) (by grind:Ex4≤401 / 1000)
    grind
  obtain ⟨zR,gR,fR,nR⟩:=zC7 1016 (1 / 32) (31 / 100 / 9007199254740992) (by decide) B16 fyt1 fyt2 nyt1 nyt2 (by grind) (by grind) (by grind)
  have hp:zFo (t*t)=w*Ey6+q*Ex4:=by
    unfold zFo
    rw [← hw,← hq,hEy6,hEy4,hEy2,hEx4,hEx2]
  refine ⟨z2,z4,y1,y2,y3,y4,y5,y6,yt1,x1,x2,x3,x4,yt2,zR,_,g2,g4,gy1,gy2,gy3,gy4,gy5,gy6,gyt1,gx1,gx2,gx3,gx4,gyt2,gR,fR,?_,?_,?_⟩
  · rw [hp]; exact nR
  · rw [hp]; grind
  · rw [hp]; grind
end Go.Proofs.YtllaekopaglolaaGreat
end
