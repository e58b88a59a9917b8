/-
  Log's polynomial part: how near the floats come to it. (Printed by gen_monolog.py.)
-/
import Derived.Test.YtllaekopaglolaaGreatGBN
section
namespace Go.Proofs.YtllaekopaglolaaGreat
open Go.RowKit
open Ieee
set_option exponentiation.threshold 5000
def cL1:Int:=PV false 6004799503160723 1021
theorem cL1_fv:FV 4604180019048437139 cL1:=enB_fv false (m:=6004799503160723) (e:=1021) (by decide) (by decide) (by decide)
theorem cL1_qv:qv cL1=6004799503160723 / 9007199254740992:=by
  have h:=qv_PVe false 6004799503160723 1021 53 9007199254740992 (by decide) (by rw [show (2:Nat)^53=9007199254740992 from by decide]; rfl)
  simp only [Bool.false_eq_true,if_false] at h
  have e:((6004799503160723:Nat):Rat)=6004799503160723:=rfl
  rw [e] at h
  show qv (PV false 6004799503160723 1021)=_
  grind
attribute [irreducible] cL1
def cL2:Int:=PV false 7205759403686404 1020
theorem cL2_fv:FV 4600877379321592324 cL2:=enB_fv false (m:=7205759403686404) (e:=1020) (by decide) (by decide) (by decide)
theorem cL2_qv:qv cL2=7205759403686404 / 18014398509481984:=by
  have h:=qv_PVe false 7205759403686404 1020 54 18014398509481984 (by decide) (by rw [show (2:Nat)^54=18014398509481984 from by decide]; rfl)
  simp only [Bool.false_eq_true,if_false] at h
  have e:((7205759403686404:Nat):Rat)=7205759403686404:=rfl
  rw [e] at h
  show qv (PV false 7205759403686404 1020)=_
  grind
attribute [irreducible] cL2
def cL3:Int:=PV false 5146971033736025 1020
theorem cL3_fv:FV 4598818590951641945 cL3:=enB_fv false (m:=5146971033736025) (e:=1020) (by decide) (by decide) (by decide)
theorem cL3_qv:qv cL3=5146971033736025 / 18014398509481984:=by
  have h:=qv_PVe false 5146971033736025 1020 54 18014398509481984 (by decide) (by rw [show (2:Nat)^54=18014398509481984 from by decide]; rfl)
  simp only [Bool.false_eq_true,if_false] at h
  have e:((5146971033736025:Nat):Rat)=5146971033736025:=rfl
  rw [e] at h
  show qv (PV false 5146971033736025 1020)=_
  grind
attribute [irreducible] cL3
def cL4:Int:=PV false 8006390766270639 1019
theorem cL4_fv:FV 4597174411056806063 cL4:=enB_fv false (m:=8006390766270639) (e:=1019) (by decide) (by decide) (by decide)
theorem cL4_qv:qv cL4=8006390766270639 / 36028797018963968:=by
  have h:=qv_PVe false 8006390766270639 1019 55 36028797018963968 (by decide) (by rw [show (2:Nat)^55=36028797018963968 from by decide]; rfl)
  simp only [Bool.false_eq_true,if_false] at h
  have e:((8006390766270639:Nat):Rat)=8006390766270639:=rfl
  rw [e] at h
  show qv (PV false 8006390766270639 1019)=_
  grind
attribute [irreducible] cL4
def cL5:Int:=PV false 6551322304906206 1019
theorem cL5_fv:FV 4595719342595441630 cL5:=enB_fv false (m:=6551322304906206) (e:=1019) (by decide) (by decide) (by decide)
theorem cL5_qv:qv cL5=6551322304906206 / 36028797018963968:=by
  have h:=qv_PVe false 6551322304906206 1019 55 36028797018963968 (by decide) (by rw [show (2:Nat)^55=36028797018963968 from by decide]; rfl)
  simp only [Bool.false_eq_true,if_false] at h
  have e:((6551322304906206:Nat):Rat)=6551322304906206:=rfl
  rw [e] at h
  show qv (PV false 6551322304906206 1019)=_
  grind
attribute [irreducible] cL5
def cL6:Int:=PV false 5517391500461727 1019
theorem cL6_fv:FV 4594685411790997151 cL6:=enB_fv false (m:=5517391500461727) (e:=1019) (by decide) (by decide) (by decide)
theorem cL6_qv:qv cL6=5517391500461727 / 36028797018963968:=by
  have h:=qv_PVe false 5517391500461727 1019 55 36028797018963968 (by decide) (by rw [show (2:Nat)^55=36028797018963968 from by decide]; rfl)
  simp only [Bool.false_eq_true,if_false] at h
  have e:((5517391500461727:Nat):Rat)=5517391500461727:=rfl
  rw [e] at h
  show qv (PV false 5517391500461727 1019)=_
  grind
attribute [irreducible] cL6
def cL7:Int:=PV false 5331612937900612 1019
theorem cL7_fv:FV 4594499633228436036 cL7:=enB_fv false (m:=5331612937900612) (e:=1019) (by decide) (by decide) (by decide)
theorem cL7_qv:qv cL7=5331612937900612 / 36028797018963968:=by
  have h:=qv_PVe false 5331612937900612 1019 55 36028797018963968 (by decide) (by rw [show (2:Nat)^55=36028797018963968 from by decide]; rfl)
  simp only [Bool.false_eq_true,if_false] at h
  have e:((5331612937900612:Nat):Rat)=5331612937900612:=rfl
  rw [e] at h
  show qv (PV false 5331612937900612 1019)=_
  grind
attribute [irreducible] cL7
theorem BB_small:BB 1020=1 / 2∧BB 1019=1 / 4∧BB 1018=1 / 8∧BB 1017=1 / 16∧BB 1016=1 / 32∧BB 1015=1 / 64∧BB 1011=1 / 1024∧BB 1010=1 / 2048∧BB 1009=1 / 4096:=by
  have h0:=BB_one 1021 rfl
  have h:∀ K,BB (K+1)=2*BB K:=BB_succ
  have a1:=h 1020; have a2:=h 1019; have a3:=h 1018; have a4:=h 1017; have a5:=h 1016; have a6:=h 1015; have a7:=h 1014; have a8:=h 1013; have a9:=h 1012; have a10:=h 1011; have a11:=h 1010; have a12:=h 1009
  simp only [Nat.reduceAdd] at a1 a2 a3 a4 a5 a6 a7 a8 a9 a10 a11 a12
  refine ⟨?_,?_,?_,?_,?_,?_,?_,?_,?_⟩ <;> grind
theorem sq_nn (x:Rat):0≤x*x:=by
  by_cases h:0≤x
  · exact Rat.mul_nonneg h h
  · have:=Rat.mul_nonneg (show 0 ≤ -x by grind) (show 0 ≤ -x by grind)
    grind
theorem near_self (x:Rat):Near x x 0:=⟨by grind,by grind⟩
def polyR (w:Rat):Rat:=w*(qv cL1+w*w*(qv cL3+w*w*(qv cL5+w*w*qv cL7)))+w*w*(qv cL2+w*w*(qv cL4+w*w*qv cL6))
set_option maxHeartbeats 4000000 in
theorem log_R {xs:Nat} {s:Int} {t:Rat} (hs:FV xs s) (ns:Near (qv s) t (101 / 100 / 9007199254740992)) (t1:-(43 / 250)≤t) (t2:t≤43 / 250) :
    ∃ z2 z4 y1 y2 y3 y4 y5 y6 yt1 x1 x2 x3 x4 yt2 zR R,fmul xs xs=some z2∧fmul z2 z2=some z4∧fmul z4 4594499633228436036=some y1∧fadd 4595719342595441630 y1=some y2∧fmul z4 y2=some y3∧fadd 4598818590951641945 y3=some y4∧fmul z4 y4=some y5∧fadd 4604180019048437139 y5=some y6∧fmul z2 y6=some yt1 ∧
      fmul z4 4594685411790997151=some x1∧fadd 4597174411056806063 x1=some x2∧fmul z4 x2=some x3∧fadd 4600877379321592324 x3=some x4∧fmul z4 x4=some yt2∧fadd yt1 yt2=some zR∧FV zR R∧Near (qv R) (polyR (t*t)) (31 / 100 / 9007199254740992)∧0≤polyR (t*t)∧polyR (t*t)≤21 / 1000:=by
  obtain ⟨B20,B19,B18,B17,B16,B15,B11,B10,B9⟩:=BB_small
  have B21:=BB_one 1021 rfl
  have sb:-(173 / 1000)≤qv s∧qv s≤173 / 1000:=by obtain ⟨a,b⟩:=ns; constructor <;> grind
  obtain ⟨sb1,sb2⟩:=sb
  obtain ⟨z2,g2,f2,n2⟩:=step_mul 1016 (1 / 32) (37 / 100 / 9007199254740992) (by decide) B16 hs hs ns ns t1 t2 sb1 sb2 (by grind) (by grind)
  generalize rndI 1074 (s*s)=v2 at *
  obtain ⟨w,hw⟩:∃ w,w=t*t:=⟨_,rfl⟩
  rw [← hw] at n2
  have w1:0≤w:=by rw [hw]; exact sq_nn t
  have w2:w≤297 / 10000:=by rw [hw]; obtain ⟨_,h⟩:=prod_bound t1 t2 t1 t2; grind
  have vb2:-(298 / 10000)≤qv v2∧qv v2≤298 / 10000:=by obtain ⟨a,b⟩:=n2; constructor <;> grind
  obtain ⟨vb2a,vb2b⟩:=vb2
  obtain ⟨z4,g4,f4,n4⟩:=step_mul 1011 (1 / 1024) (23 / 1000 / 9007199254740992) (by decide) B11 f2 f2 n2 n2 (by grind:-(297 / 10000)≤w) w2 vb2a vb2b (by grind) (by grind)
  generalize rndI 1074 (v2*v2)=v4 at *
  obtain ⟨q,hq⟩:∃ q,q=w*w:=⟨_,rfl⟩
  rw [← hq] at n4
  have q1:0≤q:=by rw [hq]; exact Rat.mul_nonneg w1 w1
  have q2:q≤883 / 1000000:=by rw [hq]; obtain ⟨_,h⟩:=prod_bound (by grind:-(297 / 10000)≤w) w2 (by grind:-(297 / 10000)≤w) w2; grind
  have vb4:-(884 / 1000000)≤qv v4∧qv v4≤884 / 1000000:=by obtain ⟨a,b⟩:=n4; constructor <;> grind
  obtain ⟨vb4a,vb4b⟩:=vb4
  have y1c1:-(3 / 20)≤qv cL7:=by rw [cL7_qv]; grind
  have y1c2:qv cL7≤(3 / 20):=by rw [cL7_qv]; grind
  obtain ⟨y1,gy1,fy1,ny1⟩:=step_mul 1009 (1 / 4096) (4 / 1000 / 9007199254740992) (by decide) B9 f4 cL7_fv n4 (near_self _) (by grind:-(883 / 1000000)≤q) q2 y1c1 y1c2 (by grind) (by grind)
  generalize rndI 1074 (v4*cL7)=vy1 at *
  have Py1:0≤q*qv cL7:=Rat.mul_nonneg q1 (by rw [cL7_qv]; grind)
  have Qy1:q*qv cL7≤133 / 1000000:=by
    obtain ⟨_,h⟩:=prod_bound (by grind:-(883 / 1000000)≤q) q2 y1c1 y1c2
    grind
  obtain ⟨y2,gy2,fy2,ny2⟩:=step_add 1019 (1 / 4) (130 / 1000 / 9007199254740992) (by decide) B19 cL5_fv fy1 (near_self _) ny1 (by rw [cL5_qv]; grind) (by rw [cL5_qv]; grind) (by grind)
  generalize rndI 0 (cL5+vy1)=vy2 at *
  obtain ⟨Ey2,hEy2⟩:∃ E,E=qv cL5+q*qv cL7:=⟨_,rfl⟩
  rw [← hEy2] at ny2
  have Ey2a:0≤Ey2:=by rw [hEy2,cL5_qv]; grind
  have Ey2b:Ey2≤(183 / 1000):=by rw [hEy2,cL5_qv]; grind
  have vy2b:-((183 / 1000)+1 / 1000)≤qv vy2∧qv vy2≤(183 / 1000)+1 / 1000:=by obtain ⟨a,b⟩:=ny2; constructor <;> grind
  obtain ⟨y3,gy3,fy3,ny3⟩:=step_mul 1009 (1 / 4096) (5 / 1000 / 9007199254740992) (by decide) B9 f4 fy2 n4 ny2 (by grind:-(883 / 1000000)≤q) q2 vy2b.1 vy2b.2 (by grind) (by grind)
  generalize rndI 1074 (v4*vy2)=vy3 at *
  have Py3:0≤q*Ey2:=Rat.mul_nonneg q1 (by grind)
  have Qy3:q*Ey2≤163 / 1000000:=by
    obtain ⟨_,h⟩:=prod_bound (by grind:-(883 / 1000000)≤q) q2 (by grind:-(183 / 1000)≤Ey2) (by grind:Ey2≤183 / 1000)
    grind
  obtain ⟨y4,gy4,fy4,ny4⟩:=step_add 1020 (1 / 2) (256 / 1000 / 9007199254740992) (by decide) B20 cL3_fv fy3 (near_self _) ny3 (by rw [cL3_qv]; grind) (by rw [cL3_qv]; grind) (by grind)
  generalize rndI 0 (cL3+vy3)=vy4 at *
  obtain ⟨Ey4,hEy4⟩:∃ E,E=qv cL3+q*Ey2:=⟨_,rfl⟩
  rw [← hEy4] at ny4
  have Ey4a:0≤Ey4:=by rw [hEy4,cL3_qv]; grind
  have Ey4b:Ey4≤(287 / 1000):=by rw [hEy4,cL3_qv]; grind
  have vy4b:-((287 / 1000)+1 / 1000)≤qv vy4∧qv vy4≤(287 / 1000)+1 / 1000:=by obtain ⟨a,b⟩:=ny4; constructor <;> grind
  obtain ⟨y5,gy5,fy5,ny5⟩:=step_mul 1010 (1 / 2048) (8 / 1000 / 9007199254740992) (by decide) B10 f4 fy4 n4 ny4 (by grind:-(883 / 1000000)≤q) q2 vy4b.1 vy4b.2 (by grind) (by grind)
  generalize rndI 1074 (v4*vy4)=vy5 at *
  have Py5:0≤q*Ey4:=Rat.mul_nonneg q1 (by grind)
  have Qy5:q*Ey4≤254 / 1000000:=by
    obtain ⟨_,h⟩:=prod_bound (by grind:-(883 / 1000000)≤q) q2 (by grind:-(287 / 1000)≤Ey4) (by grind:Ey4≤287 / 1000)
    grind
  obtain ⟨y6,gy6,fy6,ny6⟩:=step_add 1021 (1) (509 / 1000 / 9007199254740992) (by decide) B21 cL1_fv fy5 (near_self _) ny5 (by rw [cL1_qv]; grind) (by rw [cL1_qv]; grind) (by grind)
  generalize rndI 0 (cL1+vy5)=vy6 at *
  obtain ⟨Ey6,hEy6⟩:∃ E,E=qv cL1+q*Ey4:=⟨_,rfl⟩
  rw [← hEy6] at ny6
  have Ey6a:0≤Ey6:=by rw [hEy6,cL1_qv]; grind
  have Ey6b:Ey6≤(667 / 1000):=by rw [hEy6,cL1_qv]; grind
  have vy6b:-((667 / 1000)+1 / 1000)≤qv vy6∧qv vy6≤(667 / 1000)+1 / 1000:=by obtain ⟨a,b⟩:=ny6; constructor <;> grind
  obtain ⟨yt1,gyt1,fyt1,nyt1⟩:=step_mul 1016 (1 / 32) (281 / 1000 / 9007199254740992) (by decide) B16 f2 fy6 n2 ny6 (by grind:-(297 / 10000)≤w) w2 vy6b.1 vy6b.2 (by grind) (by grind)
  generalize rndI 1074 (v2*vy6)=vyt1 at *
  have Pyt1:0≤w*Ey6:=Rat.mul_nonneg w1 (by grind)
  have Qyt1:w*Ey6≤199 / 10000:=by
    obtain ⟨_,h⟩:=prod_bound (by grind:-(297 / 10000)≤w) w2 (by grind:-(667 / 1000)≤Ey6) (by grind:Ey6≤667 / 1000)
    grind
  have x1c1:-(4 / 25)≤qv cL6:=by rw [cL6_qv]; grind
  have x1c2:qv cL6≤(4 / 25):=by rw [cL6_qv]; grind
  obtain ⟨x1,gx1,fx1,nx1⟩:=step_mul 1009 (1 / 4096) (4 / 1000 / 9007199254740992) (by decide) B9 f4 cL6_fv n4 (near_self _) (by grind:-(883 / 1000000)≤q) q2 x1c1 x1c2 (by grind) (by grind)
  generalize rndI 1074 (v4*cL6)=vx1 at *
  have Px1:0≤q*qv cL6:=Rat.mul_nonneg q1 (by rw [cL6_qv]; grind)
  have Qx1:q*qv cL6≤142 / 1000000:=by
    obtain ⟨_,h⟩:=prod_bound (by grind:-(883 / 1000000)≤q) q2 x1c1 x1c2
    grind
  obtain ⟨x2,gx2,fx2,nx2⟩:=step_add 1019 (1 / 4) (130 / 1000 / 9007199254740992) (by decide) B19 cL4_fv fx1 (near_self _) nx1 (by rw [cL4_qv]; grind) (by rw [cL4_qv]; grind) (by grind)
  generalize rndI 0 (cL4+vx1)=vx2 at *
  obtain ⟨Ex2,hEx2⟩:∃ E,E=qv cL4+q*qv cL6:=⟨_,rfl⟩
  rw [← hEx2] at nx2
  have Ex2a:0≤Ex2:=by rw [hEx2,cL4_qv]; grind
  have Ex2b:Ex2≤(223 / 1000):=by rw [hEx2,cL4_qv]; grind
  have vx2b:-((223 / 1000)+1 / 1000)≤qv vx2∧qv vx2≤(223 / 1000)+1 / 1000:=by obtain ⟨a,b⟩:=nx2; constructor <;> grind
  obtain ⟨x3,gx3,fx3,nx3⟩:=step_mul 1009 (1 / 4096) (6 / 1000 / 9007199254740992) (by decide) B9 f4 fx2 n4 nx2 (by grind:-(883 / 1000000)≤q) q2 vx2b.1 vx2b.2 (by grind) (by grind)
  generalize rndI 1074 (v4*vx2)=vx3 at *
  have Px3:0≤q*Ex2:=Rat.mul_nonneg q1 (by grind)
  have Qx3:q*Ex2≤198 / 1000000:=by
    obtain ⟨_,h⟩:=prod_bound (by grind:-(883 / 1000000)≤q) q2 (by grind:-(223 / 1000)≤Ex2) (by grind:Ex2≤223 / 1000)
    grind
  obtain ⟨x4,gx4,fx4,nx4⟩:=step_add 1020 (1 / 2) (257 / 1000 / 9007199254740992) (by decide) B20 cL2_fv fx3 (near_self _) nx3 (by rw [cL2_qv]; grind) (by rw [cL2_qv]; grind) (by grind)
  generalize rndI 0 (cL2+vx3)=vx4 at *
  obtain ⟨Ex4,hEx4⟩:∃ E,E=qv cL2+q*Ex2:=⟨_,rfl⟩
  rw [← hEx4] at nx4
  have Ex4a:0≤Ex4:=by rw [hEx4,cL2_qv]; grind
  have Ex4b:Ex4≤(401 / 1000):=by rw [hEx4,cL2_qv]; grind
  have vx4b:-((401 / 1000)+1 / 1000)≤qv vx4∧qv vx4≤(401 / 1000)+1 / 1000:=by obtain ⟨a,b⟩:=nx4; constructor <;> grind
  obtain ⟨yt2,gyt2,fyt2,nyt2⟩:=step_mul 1010 (1 / 2048) (11 / 1000 / 9007199254740992) (by decide) B10 f4 fx4 n4 nx4 (by grind:-(883 / 1000000)≤q) q2 vx4b.1 vx4b.2 (by grind) (by grind)
  generalize rndI 1074 (v4*vx4)=vyt2 at *
  have Pyt2:0≤q*Ex4:=Rat.mul_nonneg q1 (by grind)
  have Qyt2:q*Ex4≤355 / 1000000:=by
    obtain ⟨_,h⟩:=prod_bound (by grind:-(883 / 1000000)≤q) q2 (by grind:-(401 / 1000)≤Ex4) (by grind:Ex4≤401 / 1000)
    grind
  obtain ⟨zR,gR,fR,nR⟩:=step_add 1016 (1 / 32) (31 / 100 / 9007199254740992) (by decide) B16 fyt1 fyt2 nyt1 nyt2 (by grind) (by grind) (by grind)
  have hp:polyR (t*t)=w*Ey6+q*Ex4:=by
    unfold polyR
    rw [← hw,← hq,hEy6,hEy4,hEy2,hEx4,hEx2]
  refine ⟨z2,z4,y1,y2,y3,y4,y5,y6,yt1,x1,x2,x3,x4,yt2,zR,_,g2,g4,gy1,gy2,gy3,gy4,gy5,gy6,gyt1,gx1,gx2,gx3,gx4,gyt2,gR,fR,?_,?_,?_⟩
  · rw [hp]; exact nR
  · rw [hp]; grind
  · rw [hp]; grind
end Go.Proofs.YtllaekopaglolaaGreat
end
/-
  Log for a fixed binade: how near the inner sum comes to the exact one.
-/
section
namespace Go.Proofs.YtllaekopaglolaaGreat
open Go.RowKit
open Ieee
set_option exponentiation.threshold 5000
theorem half_fv:∃ a,FV 4602678819172646912 a∧qv a=1 / 2:=by
  refine ⟨_,enB_fv false (m:=4503599627370496) (e:=1021) (by decide) (by decide) (by decide),?_⟩
  have h:=qv_PVe false 4503599627370496 1021 53 9007199254740992 (by decide) (by rw [show (2:Nat)^53=9007199254740992 from by decide]; rfl)
  simp only [Bool.false_eq_true,if_false] at h
  have e:((4503599627370496:Nat):Rat)=4503599627370496:=rfl
  rw [e] at h
  grind
def cLo:Int:=PV false 7382048951581814 989
theorem cLo_fv:FV 4461442080421002358 cLo:=enB_fv false (m:=7382048951581814) (e:=989) (by decide) (by decide) (by decide)
theorem cLo_qv:0≤qv cLo∧qv cLo≤1 / 4000000000:=by
  have h:=qv_PVe false 7382048951581814 989 85 38685626227668133590597632 (by decide) (by rw [show (2:Nat)^85=38685626227668133590597632 from by decide]; rfl)
  simp only [Bool.false_eq_true,if_false] at h
  have e:((7382048951581814:Nat):Rat)=7382048951581814:=rfl
  rw [e] at h
  have:qv cLo=qv (PV false 7382048951581814 989):=rfl
  rw [this]
  constructor <;> grind
def cHi:Int:=PV false 6243314766446592 1021
theorem cHi_fv:FV 4604418534311723008 cHi:=enB_fv false (m:=6243314766446592) (e:=1021) (by decide) (by decide) (by decide)
theorem cHi_qv:0≤qv cHi∧qv cHi≤7 / 10:=by
  have h:=qv_PVe false 6243314766446592 1021 53 9007199254740992 (by decide) (by rw [show (2:Nat)^53=9007199254740992 from by decide]; rfl)
  simp only [Bool.false_eq_true,if_false] at h
  have e:((6243314766446592:Nat):Rat)=6243314766446592:=rfl
  rw [e] at h
  have:qv cHi=qv (PV false 6243314766446592 1021):=rfl
  rw [this]
  constructor <;> grind
attribute [irreducible] cLo cHi
theorem le_of_mul_le {x y c:Rat} (hc:0<c) (h:x*c≤y*c):x≤y:=by
  refine Rat.not_lt.1 fun hlt=>?_
  have:=Rat.mul_lt_mul_of_pos_right hlt hc
  grind
def polyX (t:Rat):Rat:=2*t+t*polyR (t*t)
set_option maxHeartbeats 4000000 in
theorem log_core {xf xk:Nat} {G k:Int} {f:Rat} (hf:FV xf G) (hq:qv G=f) (f1:-(293 / 1000)≤f) (f2:f≤4143 / 10000) (hbig:G≠0→2^1000≤G.natAbs) (hk:FV xk k) (k1:-30≤qv k) (k2:qv k≤30) :
    ∃ d s s2 s4 a1 a2 a3 a4 a5 a6 t1 b1 b2 b3 b4 t2 R c1 h g1 g2 g3 g4 g5 g6 g7 r G6,fadd 4611686018427387904 xf=some d∧fdiv xf d=some s∧fmul s s=some s2∧fmul s2 s2=some s4∧fmul s4 4594499633228436036=some a1∧fadd 4595719342595441630 a1=some a2∧fmul s4 a2=some a3∧fadd 4598818590951641945 a3=some a4∧fmul s4 a4=some a5∧fadd 4604180019048437139 a5=some a6∧fmul s2 a6=some t1 ∧
      fmul s4 4594685411790997151=some b1∧fadd 4597174411056806063 b1=some b2∧fmul s4 b2=some b3∧fadd 4600877379321592324 b3=some b4∧fmul s4 b4=some t2∧fadd t1 t2=some R∧fmul 4602678819172646912 xf=some c1∧fmul c1 xf=some h ∧
      fmul xk 4604418534311723008=some g1∧fadd h R=some g2∧fmul s g2=some g3∧fmul xk 4461442080421002358=some g4∧fadd g3 g4=some g5∧fsub h g5=some g6∧fsub g6 xf=some g7∧fsub g1 g7=some r ∧
      FV r (rndI 0 (rndI 1074 (k*cHi) - rndI 0 (G6 - G)))∧Near (qv G6) (f - polyX (f / (2+f)) - qv (rndI 1074 (k*cLo))) (43 / 100 / 9007199254740992) ∧ -64≤qv (rndI 0 (rndI 1074 (k*cHi) - rndI 0 (G6 - G)))∧qv (rndI 0 (rndI 1074 (k*cHi) - rndI 0 (G6 - G)))≤64:=by
  obtain ⟨B20,B19,B18,B17,B16,B15,B11,B10,B9⟩:=BB_small
  obtain ⟨b0,b1n,b2n,b3n,b4n,b5n,b6n,b7n,b13n,b14n,b15n⟩:=BB_num
  have hO:=i2f_fv 2 1074 rfl (by decide)
  have qO:=qv_pow 2 1074 rfl
  have ho2:floatOfInt .f64 2=4611686018427387904:=by decide +kernel
  rw [ho2] at hO
  have qO':qv (2*2^1074)=2:=by rw [qO]; rfl
  obtain ⟨xd,gd,fd,nd,nd'⟩:=fadd_r 1023 hO hf (by decide) (by rw [qO',hq,b2n]; grind) (by rw [qO',hq,b2n]; grind)
  rw [qO',hq,b2n] at nd nd'
  generalize rndI 0 (2*2^1074+G)=D at *
  clear hO qO qO' ho2
  have hDq1:17 / 10≤qv D:=by grind
  have hDq2:qv D≤25 / 10:=by grind
  have e0:qv 0=0:=by unfold qv; simp
  have hD0:0<D:=lt_of_qv (by rw [e0]; grind)
  have hDn:D.natAbs<2^(1023+53):=qv_abs (K:=1023) (by rw [b2n]; grind) (by rw [b2n]; grind)
  obtain ⟨xs,S,gs,fs,ns1,ns2⟩:=fdiv_r 1019 hf fd hD0 (by decide) (fun h0=>by
    have h1:=hbig h0
    have h2:2^60*D.natAbs≤2^60*2^(1023+53):=Nat.mul_le_mul_left _ (Nat.le_of_lt hDn)
    have h3:2^1000*2^1074≤G.natAbs*2^1074:=Nat.mul_le_mul_right _ h1
    rw [← Nat.pow_add] at h2 h3
    have h4:(2:Nat)^(60+(1023+53))≤2^(1000+1074):=Nat.pow_le_pow_right (by decide) (by decide)
    exact Nat.le_trans h2 (Nat.le_trans h4 h3)) (by rw [hq,B19]; grind) (by rw [hq,B19]; grind)
  rw [hq,B19] at ns1 ns2
  clear hDn hD0 hbig
  obtain ⟨t,ht⟩:∃ t,t=f / (2+f):=⟨_,rfl⟩
  have hc0:0<2+f:=by grind
  have htf:t*(2+f)=f:=by rw [ht]; grind
  rw [← ht]
  clear ht
  have sq4:-(26 / 100)≤qv S∧qv S≤26 / 100:=by
    constructor
    · refine le_of_mul_le (c:=qv D) (by grind) ?_
      grind
    · refine le_of_mul_le (c:=qv D) (by grind) ?_
      grind
  obtain ⟨sq1,sq2⟩:=sq4
  have hds:=prod_bound sq1 sq2 (show -(2 / 9007199254740992)≤qv D - (2+f) by grind) (show qv D - (2+f)≤2 / 9007199254740992 by grind)
  obtain ⟨hds1,hds2⟩:=hds
  have nS:Near (qv S) t (101 / 100 / 9007199254740992):=by
    constructor
    · refine le_of_mul_le (c:=2+f) hc0 ?_
      grind
    · refine le_of_mul_le (c:=2+f) hc0 ?_
      grind
  have t1:-(43 / 250)≤t:=by
    refine le_of_mul_le (c:=2+f) hc0 ?_
    grind
  have t2:t≤43 / 250:=by
    refine le_of_mul_le (c:=2+f) hc0 ?_
    grind
  clear hds1 hds2 sq1 sq2 ns1 ns2 nd nd' hDq1 hDq2
  obtain ⟨z2,z4,y1,y2,y3,y4,y5,y6,yt1,x1,x2,x3,x4,yt2,zR,R,r1,r2,r3,r4,r5,r6,r7,r8,r9,r10,r11,r12,r13,r14,r15,fR,nR,R1,R2⟩:=log_R fs nS t1 t2
  have sb:-(173 / 1000)≤qv S∧qv S≤173 / 1000:=by obtain ⟨a,b⟩:=nS; constructor <;> grind
  obtain ⟨P,hP⟩:∃ P,P=polyR (t*t):=⟨_,rfl⟩
  rw [← hP] at nR R1 R2
  have hX:polyX t=2*t+t*P:=by unfold polyX; rw [hP]
  rw [hX]
  clear hP hX
  obtain ⟨aH,fH,qH⟩:=half_fv
  have nf:Near (qv G) f 0:=by rw [hq]; exact near_self f
  obtain ⟨c1,gc1,fc1,nc1⟩:=step_mul 1019 (1 / 4) (1 / 8 / 9007199254740992) (by decide) B19 fH hf (near_self _) nf (bA:=1 / 2) (bB:=4143 / 10000) (by rw [qH]; grind) (by rw [qH]; grind) (by rw [hq]; grind) (by rw [hq]; grind) (by grind) (by grind)
  rw [qH] at nc1
  generalize rndI 1074 (aH*G)=vc1 at *
  obtain ⟨h,gh,fh,nh⟩:=step_mul 1018 (1 / 8) (12 / 100 / 9007199254740992) (by decide) B18 fc1 hf nc1 nf (bA:=2072 / 10000) (bB:=4143 / 10000) (by grind) (by grind) (by rw [hq]; grind) (by rw [hq]; grind) (by grind) (by grind)
  generalize rndI 1074 (vc1*G)=vh at *
  obtain ⟨H,hH⟩:∃ H,H=1 / 2*f*f:=⟨_,rfl⟩
  rw [← hH] at nh
  have H1:0≤H:=by rw [hH]; have:=sq_nn f; grind
  have H2:H≤8583 / 100000:=by
    rw [hH]
    have:=prod_bound (show -(4143 / 10000)≤f by grind) f2 (show -(4143 / 10000)≤f by grind) f2
    grind
  obtain ⟨g2,gg2,fg2,ng2⟩:=step_add 1018 (1 / 8) (50 / 100 / 9007199254740992) (by decide) B18 fh fR nh nR (by grind) (by grind) (by grind)
  generalize rndI 0 (vh+R)=vg2 at *
  have vg2b:-(108 / 1000)≤qv vg2∧qv vg2≤108 / 1000:=by obtain ⟨a,b⟩:=ng2; constructor <;> grind
  obtain ⟨g3,gg3,fg3,ng3⟩:=step_mul 1016 (1 / 32) (22 / 100 / 9007199254740992) (by decide) B16 fs fg2 nS ng2 t1 t2 vg2b.1 vg2b.2 (by grind) (by grind)
  generalize rndI 1074 (S*vg2)=vg3 at *
  have hlo:=cLo_qv
  have pk:=prod_bound (show -30≤qv k by grind) k2 (show -(1 / 4000000000)≤qv cLo by grind) hlo.2
  obtain ⟨g4,gg4,fg4,n4a,n4b⟩:=fmul_r 1011 hk cLo_fv (by decide) (by rw [B11]; grind) (by rw [B11]; grind)
  rw [B11] at n4a n4b
  generalize rndI 1074 (k*cLo)=vg4 at *
  have g4b:-(1 / 10000000)≤qv vg4∧qv vg4≤1 / 10000000:=by constructor <;> grind
  have tb:=prod_bound t1 t2 (show -(10683 / 100000)≤H+P by grind) (show H+P≤10683 / 100000 by grind)
  obtain ⟨g5,gg5,fg5,ng5⟩:=step_add 1016 (1 / 32) (24 / 100 / 9007199254740992) (by decide) B16 fg3 fg4 ng3 (near_self _) (by grind) (by grind) (by grind)
  generalize rndI 0 (vg3+vg4)=vg5 at *
  obtain ⟨g6,gg6,fg6,ng6⟩:=step_sub 1018 (1 / 8) (43 / 100 / 9007199254740992) (by decide) B18 fh fg5 nh ng5 (by grind) (by grind) (by grind)
  generalize rndI 0 (vh - vg5)=vg6 at *
  have ident:H - (t*(H+P)+qv vg4)=f - (2*t+t*P) - qv vg4:=by
    rw [hH]; grind
  rw [ident] at ng6
  have xb:=prod_bound t1 t2 (show -(21 / 1000)≤P by grind) R2
  obtain ⟨g7,gg7,fg7,m1,m2⟩:=fsub_r 1021 fg6 hf (by decide) (by rw [hq,b0]; obtain ⟨a,b⟩:=ng6; grind) (by rw [hq,b0]; obtain ⟨a,b⟩:=ng6; grind)
  rw [hq,b0] at m1 m2
  have hhi:=cHi_qv
  have pk2:=prod_bound (show -30≤qv k by grind) k2 (show -(7 / 10)≤qv cHi by grind) hhi.2
  obtain ⟨g1,gg1,fg1,o1,o2⟩:=fmul_r 1026 hk cHi_fv (by decide) (by rw [b5n]; grind) (by rw [b5n]; grind)
  rw [b5n] at o1 o2
  have v7b:-(1 / 2)≤qv (rndI 0 (vg6 - G))∧qv (rndI 0 (vg6 - G))≤1 / 2:=by
    obtain ⟨a,b⟩:=ng6
    constructor <;> grind
  obtain ⟨v7a,v7c⟩:=v7b
  obtain ⟨r,gr,fr,p1,p2⟩:=fsub_r 1026 fg1 fg7 (by decide) (by rw [b5n]; grind) (by rw [b5n]; grind)
  rw [b5n] at p1 p2
  refine ⟨xd,xs,z2,z4,y1,y2,y3,y4,y5,y6,yt1,x1,x2,x3,x4,yt2,zR,c1,h,g1,g2,g3,g4,g5,g6,g7,r,vg6,gd,gs,r1,r2,r3,r4,r5,r6,r7,r8,r9,r10,r11,r12,r13,r14,r15,gc1,gh,gg1,gg2,gg3,gg4,gg5,gg6,gg7,gr,fr,ng6,?_,?_⟩
  · grind
  · grind
end Go.Proofs.YtllaekopaglolaaGreat
end
/-
  Log in one binade keeps the order.
-/
section
namespace Go.Proofs.YtllaekopaglolaaGreat
open Go.RowKit
open Ieee
set_option exponentiation.threshold 5000
theorem mul_mono {a a' b b':Rat} (a0:0≤a) (h1:a≤a') (b0:0≤b) (h2:b≤b'):0≤a*b∧a*b≤a'*b':=by
  have p1:=Rat.mul_nonneg a0 b0
  have p2:=Rat.mul_nonneg (show 0≤a' - a by grind) (show 0≤b' by grind)
  have p3:=Rat.mul_nonneg a0 (show 0≤b' - b by grind)
  constructor <;> grind
theorem polyR_mono {w v:Rat} (w0:0≤w) (h:w≤v):0≤polyR w∧polyR w≤polyR v:=by
  have hL:0≤qv cL1∧0≤qv cL2∧0≤qv cL3∧0≤qv cL4∧0≤qv cL5∧0≤qv cL6∧0≤qv cL7:=by
    rw [cL1_qv,cL2_qv,cL3_qv,cL4_qv,cL5_qv,cL6_qv,cL7_qv]
    refine ⟨?_,?_,?_,?_,?_,?_,?_⟩ <;> grind
  obtain ⟨l1,l2,l3,l4,l5,l6,l7⟩:=hL
  unfold polyR
  generalize qv cL1=L1 at *
  generalize qv cL2=L2 at *
  generalize qv cL3=L3 at *
  generalize qv cL4=L4 at *
  generalize qv cL5=L5 at *
  generalize qv cL6=L6 at *
  generalize qv cL7=L7 at *
  obtain ⟨q0,q1⟩:=mul_mono w0 h w0 h
  generalize w*w=q at *
  generalize v*v=p at *
  obtain ⟨a0,a1⟩:=mul_mono q0 q1 l7 (show L7≤L7 by grind)
  obtain ⟨b0,b1⟩:=mul_mono q0 q1 (show 0≤L5+q*L7 by grind) (show L5+q*L7≤L5+p*L7 by grind)
  obtain ⟨c0,c1⟩:=mul_mono q0 q1 (show 0≤L3+q*(L5+q*L7) by grind) (show L3+q*(L5+q*L7)≤L3+p*(L5+p*L7) by grind)
  obtain ⟨d0,d1⟩:=mul_mono w0 h (show 0≤L1+q*(L3+q*(L5+q*L7)) by grind) (show L1+q*(L3+q*(L5+q*L7))≤L1+p*(L3+p*(L5+p*L7)) by grind)
  obtain ⟨e0,e1⟩:=mul_mono q0 q1 l6 (show L6≤L6 by grind)
  obtain ⟨g0,g1⟩:=mul_mono q0 q1 (show 0≤L4+q*L6 by grind) (show L4+q*L6≤L4+p*L6 by grind)
  obtain ⟨i0,i1⟩:=mul_mono q0 q1 (show 0≤L2+q*(L4+q*L6) by grind) (show L2+q*(L4+q*L6)≤L2+p*(L4+p*L6) by grind)
  constructor <;> grind
theorem oddR_mono {s t:Rat} (h:s≤t):s*polyR (s*s)≤t*polyR (t*t):=by
  by_cases hs:0≤s
  · obtain ⟨_,q1⟩:=mul_mono hs h hs h
    obtain ⟨p0,p1⟩:=polyR_mono (sq_nn s) q1
    exact (mul_mono hs h p0 p1).2
  · have ps:=(polyR_mono (sq_nn s) (show s*s≤s*s by grind)).1
    have pt:=(polyR_mono (sq_nn t) (show t*t≤t*t by grind)).1
    by_cases ht:0≤t
    · have a:=Rat.mul_nonneg ht pt
      have b:=Rat.mul_nonneg (show 0 ≤ -s by grind) ps
      grind
    · have hn:-t ≤ -s:=by grind
      have h0:0 ≤ -t:=by grind
      obtain ⟨_,q1⟩:=mul_mono h0 hn h0 hn
      have q2:t*t≤s*s:=by grind
      obtain ⟨p0,p1⟩:=polyR_mono (sq_nn t) q2
      have:=(mul_mono h0 hn p0 p1).2
      grind
theorem polyX_step {s t:Rat} (h:s≤t):2*(t - s)≤polyX t - polyX s:=by
  have:=oddR_mono h
  unfold polyX
  grind
def LogAt (G k V:Int):Prop:=∃ G6,V=rndI 0 (rndI 1074 (k*cHi) - rndI 0 (G6 - G))∧Near (qv G6) (qv G - polyX (qv G / (2+qv G)) - qv (rndI 1074 (k*cLo))) (43 / 100 / 9007199254740992)
theorem logAt_step {G G' k V V':Int} (h:LogAt G k V) (h':LogAt G' k V') (f1:-(293 / 1000)≤qv G) (f2:qv G'≤4143 / 10000)
    (hgap:(qv G'≤0∧1 / 9007199254740992≤qv G' - qv G)∨2 / 9007199254740992≤qv G' - qv G):V≤V':=by
  obtain ⟨A,rfl,a1,a2⟩:=h
  obtain ⟨B,rfl,b1,b2⟩:=h'
  have hgp:0≤qv G' - qv G:=by rcases hgap with h | h <;> grind
  have hA:qv (A - G)=qv A - qv G:=qv_sub A G
  have hB:qv (B - G')=qv B - qv G':=qv_sub B G'
  generalize qv G=f at *
  generalize qv G'=g at *
  have c1:0<2+f:=by grind
  have c2:0<2+g:=by grind
  obtain ⟨s,hs⟩:∃ s,s=f / (2+f):=⟨_,rfl⟩
  obtain ⟨t,ht⟩:∃ t,t=g / (2+g):=⟨_,rfl⟩
  have es:s*(2+f)=f:=by rw [hs]; grind
  have et:t*(2+g)=g:=by rw [ht]; grind
  rw [← hs] at a1 a2
  rw [← ht] at b1 b2
  clear hs ht
  have hC:0<(2+f)*(2+g):=Rat.mul_pos c1 c2
  have hd:(t - s)*((2+f)*(2+g))=2*(g - f):=by grind
  have hst:s≤t:=by
    refine le_of_mul_le hC ?_
    grind
  have hx:=polyX_step hst
  have key:43 / 100 / 9007199254740992≤t - s:=by
    refine le_of_mul_le hC ?_
    rw [hd]
    rcases hgap with ⟨h1,h2⟩ | h2
    · have hb:=(mul_mono (show 0≤2+f by grind) (show 2+f≤2 by grind) (show 0≤2+g by grind) (show 2+g≤2 by grind)).2
      generalize (2+f)*(2+g)=C at *
      grind
    · have hb:=(mul_mono (show 0≤2+f by grind) (show 2+f≤24143 / 10000 by grind) (show 0≤2+g by grind) (show 2+g≤24143 / 10000 by grind)).2
      generalize (2+f)*(2+g)=C at *
      grind
  have hle:qv (B - G')≤qv (A - G):=by
    rw [hA,hB]
    grind
  have h7:=rndI_mono 0 (le_of_qv hle)
  exact rndI_mono 0 (by omega)
end Go.Proofs.YtllaekopaglolaaGreat
end
