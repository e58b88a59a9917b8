/-
  Exp,Log and their kin,fit to be computed. (Printed by gen_q.py.)
-/
import Derived.Test.YtllaekopaglolaaGreatHAH
import Derived.Test.YtllaekopaglolaaGreatHAC
section
namespace Go.Proofs.YtllaekopaglolaaGreat
open Go.RowKit
set_option maxRecDepth 10000
theorem k0_q (y:Nat) (f:Nat→Option Nat):((some (IntKind.u64.wrap ((y:Int) / 3))).bind fun a0=>(some (IntKind.u64.wrap (a0+3071306043645493248))).bind fun a1=>(some a1.toNat).bind fun t0=>f t0)=(some (qc0 y)).bind f:=by
  rw [← c0_q,Option.bind_some,Option.bind_some]
theorem k1_q (t1:Nat) (f:Nat→Option Nat):((some (bits .and .u64 (t1:Int) 18446744072635809792)).bind fun c0=>(some (IntKind.u64.wrap (c0+1073741824))).bind fun c1=>(some c1.toNat).bind fun t2=>f t2)=(some (qc1 t1)).bind f:=by
  rw [← c1_q,Option.bind_some,Option.bind_some]
def zFR (hi:Nat) (lo:Nat) (k:Int):Option Nat :=
  (qsub hi lo).bind fun r =>
  (qmul r r).bind fun t =>
  (qmul t 4496342204012209360).bind fun m1 =>
  (qadd 13743786778040626161 m1).bind fun a1 =>
  (qmul t a1).bind fun m2 =>
  (qadd 4544508515198557740 m2).bind fun a2 =>
  (qmul t a2).bind fun m3 =>
  (qadd 13791923578850950547 m3).bind fun a3 =>
  (qmul t a3).bind fun m4 =>
  (qadd 4595172819793696085 m4).bind fun a4 =>
  (qmul t a4).bind fun m5 =>
  (qsub r m5).bind fun c =>
  (qmul r c).bind fun n1 =>
  (qsub 4611686018427387904 c).bind fun d1 =>
  (qdiv n1 d1).bind fun q =>
  (qsub lo q).bind fun s1 =>
  (qsub s1 hi).bind fun s2 =>
  (qsub 4607182418800017408 s2).bind fun y =>
  (zJU y k).bind fun z =>
  some z
theorem zIM (hi:Nat) (lo:Nat) (k:Int):zDV hi lo k=zFR hi lo k:=by
  unfold zDV zFR
  simp only [zBE,zBZ,zBu,zCG,zM4]
def zNL (x:Nat):Option Nat :=
  (need (zBq x)).bind fun _ =>
  (need (!(qgt x 4649454530587146735))).bind fun _ =>
  (need (!(qlt x 13873137513782915153))).bind fun _ =>
  (need (qgt x 0)).bind fun _ =>
  (need (!(qlt x 0))).bind fun _ =>
  (need (qlt 13704453666088419328 x)).bind fun _ =>
  (need (!(qlt x 4481081629233643520))).bind fun _ =>
  (qmul 4609176140021203710 x).bind fun m =>
  (qadd m 4602678819172646912).bind fun a =>
  (qf2i a).bind fun k =>
  (some (qi2f k)).bind fun kf =>
  (qmul kf 4604418534311723008).bind fun h1 =>
  (qsub x h1).bind fun hi =>
  (qmul kf 4461442080421002358).bind fun lo =>
  (zFR hi lo k).bind fun z =>
  some z
theorem zUq (x:Nat):zHc x=zNL x:=by
  unfold zHc zNL
  simp only [zBE,zBZ,zBu,zCh,zEu,zCE,zIv,zNJ,zIM]
def zNN (x:Nat):Option Nat :=
  (need (zBq x)).bind fun _ =>
  (need (!(qgt x 4649454530587146735))).bind fun _ =>
  (need (!(qlt x 13873137513782915153))).bind fun _ =>
  (need (qlt x 0)).bind fun _ =>
  (need (!(qlt 13704453666088419328 x))).bind fun _ =>
  (qmul 4609176140021203710 x).bind fun m =>
  (qsub m 4602678819172646912).bind fun a =>
  (qf2i a).bind fun k =>
  (some (qi2f k)).bind fun kf =>
  (qmul kf 4604418534311723008).bind fun h1 =>
  (qsub x h1).bind fun hi =>
  (qmul kf 4461442080421002358).bind fun lo =>
  (zFR hi lo k).bind fun z =>
  some z
theorem zUr (x:Nat):zHd x=zNN x:=by
  unfold zHd zNN
  simp only [zBZ,zBu,zCh,zEu,zCE,zIv,zNJ,zIM]
def zI0 (x:Nat):Option Nat :=
  (need (zBq x)).bind fun _ =>
  (need (!(qgt x 4649454530587146735))).bind fun _ =>
  (need (!(qlt x 13873137513782915153))).bind fun _ =>
  (need (qlt 13704453666088419328 x)).bind fun _ =>
  (need (qlt x 4481081629233643520)).bind fun _ =>
  (qadd 4607182418800017408 x).bind fun r =>
  some r
theorem zSq (x:Nat):zFS x=zI0 x:=by
  unfold zFS zI0
  simp only [zBE,zCh,zEu,zCE]
def expQ (x:Nat):Option Nat:=(zNL x).or ((zNN x).or ((zI0 x).or ((zGh x).or (zFT x))))
theorem zJw (x:Nat):expF x=expQ x:=by
  unfold expF expQ
  simp only [zUq,zUr,zSq]
def zMy (x:Nat):Option Nat :=
  (need (zBq x)).bind fun _ =>
  (need (!(qgt x 9218868437227405311))).bind fun _ =>
  (need (!(qlt x 0))).bind fun _ =>
  (need (!(qeq x 0))).bind fun _ =>
  (zGA x).bind fun ⟨f0,k0⟩ =>
  (need (qlt f0 4604544271217802189)).bind fun _ =>
  (qmul f0 4611686018427387904).bind fun f1 =>
  (some (wrap64 (k0 - 1))).bind fun k1 =>
  (qsub f1 4607182418800017408).bind fun f =>
  (some (qi2f k1)).bind fun kf =>
  (qadd 4611686018427387904 f).bind fun d =>
  (qdiv f d).bind fun s =>
  (qmul s s).bind fun s2 =>
  (qmul s2 s2).bind fun s4 =>
  (qmul s4 4594499633228436036).bind fun a1 =>
  (qadd 4595719342595441630 a1).bind fun a2 =>
  (qmul s4 a2).bind fun a3 =>
  (qadd 4598818590951641945 a3).bind fun a4 =>
  (qmul s4 a4).bind fun a5 =>
  (qadd 4604180019048437139 a5).bind fun a6 =>
  (qmul s2 a6).bind fun t1 =>
  (qmul s4 4594685411790997151).bind fun b1 =>
  (qadd 4597174411056806063 b1).bind fun b2 =>
  (qmul s4 b2).bind fun b3 =>
  (qadd 4600877379321592324 b3).bind fun b4 =>
  (qmul s4 b4).bind fun t2 =>
  (qadd t1 t2).bind fun R =>
  (qmul 4602678819172646912 f).bind fun c1 =>
  (qmul c1 f).bind fun hf =>
  (qmul kf 4604418534311723008).bind fun g1 =>
  (qadd hf R).bind fun g2 =>
  (qmul s g2).bind fun g3 =>
  (qmul kf 4461442080421002358).bind fun g4 =>
  (qadd g3 g4).bind fun g5 =>
  (qsub hf g5).bind fun g6 =>
  (qsub g6 f).bind fun g7 =>
  (qsub g1 g7).bind fun r =>
  some r
theorem zUR (x:Nat):zDF x=zMy x:=by
  unfold zDF zMy
  simp only [zBE,zBZ,zBu,zCG,zCh,zEu,zFy,zCE,zFv,zIv]
def zIn (x:Nat):Option Nat :=
  (need (zBq x)).bind fun _ =>
  (need (!(qgt x 9218868437227405311))).bind fun _ =>
  (need (!(qlt x 0))).bind fun _ =>
  (need (!(qeq x 0))).bind fun _ =>
  (zGA x).bind fun ⟨f0,k0⟩ =>
  (need (!(qlt f0 4604544271217802189))).bind fun _ =>
  (qsub f0 4607182418800017408).bind fun f =>
  (some (qi2f k0)).bind fun kf =>
  (qadd 4611686018427387904 f).bind fun d =>
  (qdiv f d).bind fun s =>
  (qmul s s).bind fun s2 =>
  (qmul s2 s2).bind fun s4 =>
  (qmul s4 4594499633228436036).bind fun a1 =>
  (qadd 4595719342595441630 a1).bind fun a2 =>
  (qmul s4 a2).bind fun a3 =>
  (qadd 4598818590951641945 a3).bind fun a4 =>
  (qmul s4 a4).bind fun a5 =>
  (qadd 4604180019048437139 a5).bind fun a6 =>
  (qmul s2 a6).bind fun t1 =>
  (qmul s4 4594685411790997151).bind fun b1 =>
  (qadd 4597174411056806063 b1).bind fun b2 =>
  (qmul s4 b2).bind fun b3 =>
  (qadd 4600877379321592324 b3).bind fun b4 =>
  (qmul s4 b4).bind fun t2 =>
  (qadd t1 t2).bind fun R =>
  (qmul 4602678819172646912 f).bind fun c1 =>
  (qmul c1 f).bind fun hf =>
  (qmul kf 4604418534311723008).bind fun g1 =>
  (qadd hf R).bind fun g2 =>
  (qmul s g2).bind fun g3 =>
  (qmul kf 4461442080421002358).bind fun g4 =>
  (qadd g3 g4).bind fun g5 =>
  (qsub hf g5).bind fun g6 =>
  (qsub g6 f).bind fun g7 =>
  (qsub g1 g7).bind fun r =>
  some r
theorem zSQ (x:Nat):zDj x=zIn x:=by
  unfold zDj zIn
  simp only [zBE,zBZ,zBu,zCG,zCh,zEu,zFy,zCE,zFv,zIv]
def logQ (x:Nat):Option Nat:=(zMy x).or (zIn x)
theorem zQV (x:Nat):logF x=logQ x:=by
  unfold logF logQ
  simp only [zUR,zSQ]
def zM2 (x:Nat):Option Nat :=
  (zGA x).bind fun ⟨f,k⟩ =>
  (need (!(qeq f 4602678819172646912))).bind fun _ =>
  (logQ f).bind fun l =>
  (qmul l 4609176140021203710).bind fun m =>
  (some (qi2f k)).bind fun kf =>
  (qadd m kf).bind fun r =>
  some r
theorem zJg (x:Nat):zIp x=zM2 x:=by
  unfold zIp zM2
  simp only [zBE,zBu,zFy,zFv,zIv,zQV]
def zHU (x:Nat):Option Nat :=
  (need (!(qeq x 0))).bind fun _ =>
  (need (zBq x)).bind fun _ =>
  (need (zDt x)).bind fun _ =>
  (need (!(qlt x 0))).bind fun _ =>
  (zKY x).bind fun ⟨d,_fr⟩ =>
  some d
theorem zQj (x:Nat):zEH x=zHU x:=by
  unfold zEH zHU
  simp only [zCh,zFy,zCE,zEC,zJf]
def zFx (x:Nat):Option Nat :=
  (need (!(qeq x 0))).bind fun _ =>
  (need (zBq x)).bind fun _ =>
  (need (zDt x)).bind fun _ =>
  (need (qlt x 0)).bind fun _ =>
  (zKY (qneg x)).bind fun ⟨d,fr⟩ =>
  (need (!(qeq fr 0))).bind fun _ =>
  (qadd d 4607182418800017408).bind fun d1 =>
  some (qneg d1)
theorem zNG (x:Nat):zDT x=zFx x:=by
  unfold zDT zFx
  simp only [zBE,zCh,zFy,zCE,zEC,zJf,zKi]
def zEt (x:Nat):Option Nat :=
  (need (!(qeq x 0))).bind fun _ =>
  (need (zBq x)).bind fun _ =>
  (need (zDt x)).bind fun _ =>
  (need (qlt x 0)).bind fun _ =>
  (zKY (qneg x)).bind fun ⟨d,fr⟩ =>
  (need (qeq fr 0)).bind fun _ =>
  some (qneg d)
theorem zJt (x:Nat):zCy x=zEt x:=by
  unfold zCy zEt
  simp only [zCh,zFy,zCE,zEC,zJf,zKi]
def zFw (x:Nat):Option Nat :=
  (need (qeq x 0)).bind fun _ =>
  some x
theorem zNE (x:Nat):zDS x=zFw x:=by
  unfold zDS zFw
  simp only [zFy]
def zOV (x:Nat):Option Nat:=(zHU x).or ((zFx x).or ((zEt x).or (zFw x)))
theorem zSk (x:Nat):zIK x=zOV x:=by
  unfold zIK zOV
  simp only [zQj,zNG,zJt,zNE]
def zMz (x:Nat):Option Nat :=
  (qadd (zT3 x) (zNx x)).bind fun a =>
  (qsub a 4607182418800017408).bind fun r =>
  some r
theorem zUS (x:Nat):zEq x=zMz x:=by
  unfold zEq zMz
  simp only [zBE,zBZ,zVS,zRX]
def zM1 (x:Nat):Option Nat :=
  (qsub (zNx x) 4607182418800017408).bind fun s =>
  (qmul 4595344385493786390 s).bind fun a1 =>
  (qadd a1 13826951575952896819).bind fun a2 =>
  (qmul a2 s).bind fun a3 =>
  (qadd a3 4609112532926033335).bind fun a4 =>
  (qmul a4 s).bind fun a5 =>
  (qadd a5 (zT3 x)).bind fun r =>
  some r
theorem zUT (x:Nat):zEr x=zM1 x:=by
  unfold zEr zM1
  simp only [zBE,zBZ,zBu,zVS,zRX]
def zM8 (x:Nat):Option Nat :=
  (zOV x).bind fun e =>
  (qsub x e).bind fun d =>
  (qadd d 4607182418800017408).bind fun s =>
  (qf2i e).bind fun k =>
  some (zNz k s)
theorem zUd (x:Nat):zHN x=zM8 x:=by
  unfold zHN zM8
  simp only [zBE,zBZ,zNJ,zTH,zSk]
def zI7 (x:Nat):Option Nat :=
  (need (!(qeq x 0))).bind fun _ =>
  (need (zBq x)).bind fun _ =>
  (need (zDt x)).bind fun _ =>
  (need (qlt x 0)).bind fun _ =>
  (some (qneg x)).bind fun y =>
  (need (!(qlt y 4503599627370496))).bind fun _ =>
  (some (qc0 y)).bind fun t0 =>
  (qmul t0 t0).bind fun tt =>
  (qdiv tt y).bind fun r =>
  (qmul r t0).bind fun rt =>
  (qadd 4603064841997850097 rt).bind fun s =>
  (qadd s 4609048195788499471).bind fun s1 =>
  (qdiv 13827900089180538932 s).bind fun ds =>
  (qadd s1 ds).bind fun s2 =>
  (qdiv 4609916747145206638 s2).bind fun fs =>
  (qadd 4600105333671292343 fs).bind fun g =>
  (qmul t0 g).bind fun t1 =>
  (some (qc1 t1)).bind fun t2 =>
  (qmul t2 t2).bind fun s3 =>
  (qdiv y s3).bind fun r2 =>
  (qadd t2 t2).bind fun w0 =>
  (qsub r2 t2).bind fun n =>
  (qadd w0 r2).bind fun m =>
  (qdiv n m).bind fun qq =>
  (qmul t2 qq).bind fun tq =>
  (qadd t2 tq).bind fun t3 =>
  some (qneg t3)
theorem zTE (x:Nat):zFe x=zI7 x:=by
  unfold zFe zI7
  simp only [zBE,zBZ,zBu,zCG,zCh,zFy,zCE,zEC,zKi,k0_q,k1_q]
def zM9 (x:Nat):Option Nat :=
  (zOV x).bind fun e0 =>
  (qsub x e0).bind fun f1 =>
  (qmul 4605322156423323962 f1).bind fun f2 =>
  (qsub 4606195670930640885 f2).bind fun d1 =>
  (qmul d1 d1).bind fun g1 =>
  (qmul 4616189618054758400 13823793541601948855).bind fun g2 =>
  (qmul g2 13823793541601948855).bind fun g3 =>
  (qmul g3 13823793541601948855).bind fun g4 =>
  (qsub g1 g4).bind fun g5 =>
  (zVn g5).bind fun s1 =>
  (qsub d1 s1).bind fun g6 =>
  (qdiv g6 4611686018427387904).bind fun g7 =>
  (zI7 g7).bind fun c =>
  (qadd 13826951575952896819 c).bind fun h1 =>
  (qdiv 13823793541601948855 c).bind fun h2 =>
  (qadd h1 h2).bind fun h3 =>
  (some (qneg h3)).bind fun h4 =>
  (qdiv h4 4602807493447714640).bind fun h5 =>
  (qadd h5 4607182418800017408).bind fun s =>
  (qf2i e0).bind fun k =>
  some (zNz k s)
theorem zUe (x:Nat):zHO x=zM9 x:=by
  unfold zHO zM9
  simp only [zBE,zBZ,zBu,zCG,zWe,zKi,zNJ,zTH,zSk,zTE]
end Go.Proofs.YtllaekopaglolaaGreat
end
/-
  The mappings,made. (Printed by gen_new.py.)
-/
section
namespace Go.Proofs.YtllaekopaglolaaGreat
open Go.RowKit
def Made (t:TypeId) (g off mult mn mx:Nat) (w:World) (e:Ending) (w':World):Prop :=
  ∃ p,e = .returned (.tuple #[.pointer (some ⟨p,0,none⟩),.nilIface])∧w.heap.size≤p∧w'.heap[p]?=some (.cells #[.float .f64 g,.float .f64 off,.float .f64 mult,.float .f64 mn,.float .f64 mx] t (0,0))∧Below w.heap.size w w'
def zG8 (g:Nat) (off:Nat):Option (Nat × Nat × Nat) :=
  (need (!(fle g 4607182418800017408))).bind fun _ =>
  (logF g).bind fun l =>
  (fdiv 4607182418800017408 l).bind fun mult =>
  (fsub 13970166044103278592 off).bind fun a1 =>
  (fdiv a1 mult).bind fun a2 =>
  (fadd a2 4607182418800017408).bind fun a3 =>
  (expF a3).bind fun ex1 =>
  (need (ex1 == 0)).bind fun _ =>
  (fmul 4503599627370496 g).bind fun mn =>
  (need (!(fgt mn 9218868437227405311))).bind fun _ =>
  (need (zA7 mn)).bind fun _ =>
  (need (!(feq 0 mn))).bind fun _ =>
  (need (!(fgt 0 mn))).bind fun _ =>
  (fsub 4746794007244308480 off).bind fun c1 =>
  (fdiv c1 mult).bind fun c2 =>
  (fsub c2 4607182418800017408).bind fun c3 =>
  (expF c3).bind fun ex2 =>
  (need (ex2 == 9218868437227405312)).bind fun _ =>
  (expF 4649451482093607557).bind fun ex3 =>
  (fmul 4611686018427387904 g).bind fun d1 =>
  (fdiv ex3 d1).bind fun d2 =>
  (fadd g 4607182418800017408).bind fun d3 =>
  (fmul d2 d3).bind fun mx =>
  (need (!(fgt (negF mx) 9218868437227405311))).bind fun _ =>
  (need (zA7 mx)).bind fun _ =>
  (need (!(flt 9218868437227405312 mx))).bind fun _ =>
  some (mult,mn,mx)
set_option maxRecDepth 100000 in
set_option maxHeartbeats 1000000 in
theorem zPE (g:Nat) (off:Nat) (out0:Nat) (out1:Nat) (out2:Nat) (w:World) (h:zG8 g off=some (out0,out1,out2)):Calls Tryz.prog 69 #[.float .f64 g,.float .f64 off] w fun e w'=>Made 143 g off out0 out1 out2 w e w':=by
  unfold zG8 at h
  simp only [Option.bind_eq_some_iff] at h
  obtain ⟨_u1,e1,l,e2,mult,e3,a1,e4,a2,e5,a3,e6,ex1,e7,_u8,e8,mn,e11,_u12,e12,_u13,e13,_u14,e14,_u15,e15,c1,e16,c2,e17,c3,e18,ex2,e19,_u20,e20,ex3,e23,d1,e24,d2,e25,d3,e26,mx,e27,_u28,e28,_u29,e29,_u30,e30,hout⟩:=h
  simp only [Option.some.injEq,Prod.mk.injEq] at hout
  obtain ⟨ho0,ho1,ho2⟩:=hout
  have q1:(FloatKind.f64.format.order g 4607182418800017408 == some .lt||FloatKind.f64.format.order g 4607182418800017408 == some .eq)=false:=zAE e1
  have q2:=fun w=>zFt g l w e2
  have q3:=fun w:World=>run_float_arith (P:=Tryz.prog) w .quo 29 .f64 4607182418800017408 l mult e3
  have q4:=fun w:World=>run_float_arith (P:=Tryz.prog) w .sub 29 .f64 13970166044103278592 off a1 e4
  have q5:=fun w:World=>run_float_arith (P:=Tryz.prog) w .quo 29 .f64 a1 mult a2 e5
  have q6:=fun w:World=>run_float_arith (P:=Tryz.prog) w .add 29 .f64 a2 4607182418800017408 a3 e6
  have q7:=fun w=>zDH a3 ex1 w e7
  have q8:=zAO e8
  have hx1:ex1=0:=by simpa using q8
  subst hx1
  have q11:=fun w:World=>run_float_arith (P:=Tryz.prog) w .mul 29 .f64 4503599627370496 g mn e11
  have q12:(FloatKind.f64.format.order mn 9218868437227405311 == some .gt)=false:=zAE e12
  have q13:=zAO e13
  have q14:(FloatKind.f64.format.order 0 mn == some .eq)=false:=zAE e14
  have q15:(FloatKind.f64.format.order 0 mn == some .gt)=false:=zAE e15
  have q16:=fun w:World=>run_float_arith (P:=Tryz.prog) w .sub 29 .f64 4746794007244308480 off c1 e16
  have q17:=fun w:World=>run_float_arith (P:=Tryz.prog) w .quo 29 .f64 c1 mult c2 e17
  have q18:=fun w:World=>run_float_arith (P:=Tryz.prog) w .sub 29 .f64 c2 4607182418800017408 c3 e18
  have q19:=fun w=>zDH c3 ex2 w e19
  have q20:=zAO e20
  have hx2:ex2=9218868437227405312:=by simpa using q20
  subst hx2
  have q23:=fun w=>zDH 4649451482093607557 ex3 w e23
  have q24:=fun w:World=>run_float_arith (P:=Tryz.prog) w .mul 29 .f64 4611686018427387904 g d1 e24
  have q25:=fun w:World=>run_float_arith (P:=Tryz.prog) w .quo 29 .f64 ex3 d1 d2 e25
  have q26:=fun w:World=>run_float_arith (P:=Tryz.prog) w .add 29 .f64 g 4607182418800017408 d3 e26
  have q27:=fun w:World=>run_float_arith (P:=Tryz.prog) w .mul 29 .f64 d2 d3 mx e27
  have q28:=zAE e28
  have q29:=zAO e29
  have q30:(FloatKind.f64.format.order 9218868437227405312 mx == some .lt)=false:=zAE e30
  clear e1 e2 e3 e4 e5 e6 e7 e8 e11 e12 e13 e14 e15 e16 e17 e18 e19 e20 e23 e24 e25 e26 e27 e28 e29 e30
  subst ho0 ho1 ho2
  have hmax:=fun w=>zKw mn w q12 q13 q14 q15
  have hmin:=fun w=>zKp mx w q28 q29 q30
  go_enter Tryz.func69,Tryz.ntmps69
  go_wp2_with (first | (go_at_call 82; with_reducible refine (hmax w).mono ?_; rintro e w' ⟨rfl,rfl⟩) | (go_at_call 84; with_reducible refine (hmin w).mono ?_; rintro e w' ⟨rfl,rfl⟩) | (first | (go_at_call 81; with_reducible refine (q2 w).mono ?_; rintro e w' ⟨rfl,rfl⟩) | (go_at_call 83; with_reducible refine (q7 w).mono ?_; rintro e w' ⟨rfl,rfl⟩) | (go_at_call 83; with_reducible refine (q19 w).mono ?_; rintro e w' ⟨rfl,rfl⟩) | (go_at_call 83; with_reducible refine (q23 w).mono ?_; rintro e w' ⟨rfl,rfl⟩)))
  go_ret2
  exact ⟨w.heap.size,rfl,Nat.le_refl _,heap_alloc_new w _,(Below.refl _ w).alloc (Nat.le_refl _) _⟩
def zG9 (g:Nat) (off:Nat):Option (Nat × Nat × Nat) :=
  (need (!(fle g 4607182418800017408))).bind fun _ =>
  (zIp g).bind fun l =>
  (fdiv 4607182418800017408 l).bind fun mult =>
  (powF g 4609176140021203710).bind fun adj =>
  (fsub 13970166044103278592 off).bind fun a1 =>
  (fdiv a1 mult).bind fun a2 =>
  (fadd a2 4607182418800017408).bind fun a3 =>
  (zHv a3).bind fun ex1 =>
  (need (ex1 == 0)).bind fun _ =>
  (fmul 4503599627370496 adj).bind fun mn =>
  (need (!(fgt mn 9218868437227405311))).bind fun _ =>
  (need (zA7 mn)).bind fun _ =>
  (need (!(feq 0 mn))).bind fun _ =>
  (need (!(fgt 0 mn))).bind fun _ =>
  (fsub 4746794007244308480 off).bind fun c1 =>
  (fdiv c1 mult).bind fun c2 =>
  (fsub c2 4607182418800017408).bind fun c3 =>
  (zHv c3).bind fun ex2 =>
  (need (ex2 == 9218868437227405312)).bind fun _ =>
  (expF 4649451482093607557).bind fun ex3 =>
  (fmul 4611686018427387904 adj).bind fun d1 =>
  (fdiv ex3 d1).bind fun d2 =>
  (fadd adj 4607182418800017408).bind fun d3 =>
  (fmul d2 d3).bind fun mx =>
  (need (!(fgt (negF mx) 9218868437227405311))).bind fun _ =>
  (need (zA7 mx)).bind fun _ =>
  (need (!(flt 9218868437227405312 mx))).bind fun _ =>
  some (mult,mn,mx)
set_option maxRecDepth 100000 in
set_option maxHeartbeats 1000000 in
theorem zPF (g:Nat) (off:Nat) (out0:Nat) (out1:Nat) (out2:Nat) (w:World) (h:zG9 g off=some (out0,out1,out2)):Calls Tryz.prog 72 #[.float .f64 g,.float .f64 off] w fun e w'=>Made 144 g off out0 out1 out2 w e w':=by
  unfold zG9 at h
  simp only [Option.bind_eq_some_iff] at h
  obtain ⟨_u1,e1,l,e2,mult,e3,adj,e4,a1,e5,a2,e6,a3,e7,ex1,e8,_u9,e9,mn,e12,_u13,e13,_u14,e14,_u15,e15,_u16,e16,c1,e17,c2,e18,c3,e19,ex2,e20,_u21,e21,ex3,e24,d1,e25,d2,e26,d3,e27,mx,e28,_u29,e29,_u30,e30,_u31,e31,hout⟩:=h
  simp only [Option.some.injEq,Prod.mk.injEq] at hout
  obtain ⟨ho0,ho1,ho2⟩:=hout
  have q1:(FloatKind.f64.format.order g 4607182418800017408 == some .lt||FloatKind.f64.format.order g 4607182418800017408 == some .eq)=false:=zAE e1
  have q2:=fun w=>zFM g l w e2
  have q3:=fun w:World=>run_float_arith (P:=Tryz.prog) w .quo 29 .f64 4607182418800017408 l mult e3
  have q4:=fun w=>zIe g 4609176140021203710 adj w e4
  have q5:=fun w:World=>run_float_arith (P:=Tryz.prog) w .sub 29 .f64 13970166044103278592 off a1 e5
  have q6:=fun w:World=>run_float_arith (P:=Tryz.prog) w .quo 29 .f64 a1 mult a2 e6
  have q7:=fun w:World=>run_float_arith (P:=Tryz.prog) w .add 29 .f64 a2 4607182418800017408 a3 e7
  have q8:=fun w=>zGi a3 ex1 w e8
  have q9:=zAO e9
  have hx1:ex1=0:=by simpa using q9
  subst hx1
  have q12:=fun w:World=>run_float_arith (P:=Tryz.prog) w .mul 29 .f64 4503599627370496 adj mn e12
  have q13:(FloatKind.f64.format.order mn 9218868437227405311 == some .gt)=false:=zAE e13
  have q14:=zAO e14
  have q15:(FloatKind.f64.format.order 0 mn == some .eq)=false:=zAE e15
  have q16:(FloatKind.f64.format.order 0 mn == some .gt)=false:=zAE e16
  have q17:=fun w:World=>run_float_arith (P:=Tryz.prog) w .sub 29 .f64 4746794007244308480 off c1 e17
  have q18:=fun w:World=>run_float_arith (P:=Tryz.prog) w .quo 29 .f64 c1 mult c2 e18
  have q19:=fun w:World=>run_float_arith (P:=Tryz.prog) w .sub 29 .f64 c2 4607182418800017408 c3 e19
  have q20:=fun w=>zGi c3 ex2 w e20
  have q21:=zAO e21
  have hx2:ex2=9218868437227405312:=by simpa using q21
  subst hx2
  have q24:=fun w=>zDH 4649451482093607557 ex3 w e24
  have q25:=fun w:World=>run_float_arith (P:=Tryz.prog) w .mul 29 .f64 4611686018427387904 adj d1 e25
  have q26:=fun w:World=>run_float_arith (P:=Tryz.prog) w .quo 29 .f64 ex3 d1 d2 e26
  have q27:=fun w:World=>run_float_arith (P:=Tryz.prog) w .add 29 .f64 adj 4607182418800017408 d3 e27
  have q28:=fun w:World=>run_float_arith (P:=Tryz.prog) w .mul 29 .f64 d2 d3 mx e28
  have q29:=zAE e29
  have q30:=zAO e30
  have q31:(FloatKind.f64.format.order 9218868437227405312 mx == some .lt)=false:=zAE e31
  clear e1 e2 e3 e4 e5 e6 e7 e8 e9 e12 e13 e14 e15 e16 e17 e18 e19 e20 e21 e24 e25 e26 e27 e28 e29 e30 e31
  subst ho0 ho1 ho2
  have hmax:=fun w=>zKw mn w q13 q14 q15 q16
  have hmin:=fun w=>zKp mx w q29 q30 q31
  go_enter Tryz.func72,Tryz.ntmps72
  go_wp2_with (first | (go_at_call 82; with_reducible refine (hmax w).mono ?_; rintro e w' ⟨rfl,rfl⟩) | (go_at_call 84; with_reducible refine (hmin w).mono ?_; rintro e w' ⟨rfl,rfl⟩) | (first | (go_at_call 71; with_reducible refine (q2 w).mono ?_; rintro e w' ⟨rfl,rfl⟩) | (go_at_call 70; with_reducible refine (q4 w).mono ?_; rintro e w' ⟨rfl,rfl⟩) | (go_at_call 87; with_reducible refine (q8 w).mono ?_; rintro e w' ⟨rfl,rfl⟩) | (go_at_call 87; with_reducible refine (q20 w).mono ?_; rintro e w' ⟨rfl,rfl⟩) | (go_at_call 83; with_reducible refine (q24 w).mono ?_; rintro e w' ⟨rfl,rfl⟩)))
  go_ret2
  exact ⟨w.heap.size,rfl,Nat.le_refl _,heap_alloc_new w _,(Below.refl _ w).alloc (Nat.le_refl _) _⟩
def zHA (g:Nat) (off:Nat):Option (Nat × Nat × Nat) :=
  (need (!(fle g 4607182418800017408))).bind fun _ =>
  (zIp g).bind fun l =>
  (fdiv 4607182418800017408 l).bind fun mult =>
  (powF g 4607226943766636671).bind fun adj =>
  (fsub 13970166044103278592 off).bind fun a1 =>
  (fdiv a1 mult).bind fun a2 =>
  (fadd a2 4607182418800017408).bind fun a3 =>
  (zHv a3).bind fun ex1 =>
  (need (ex1 == 0)).bind fun _ =>
  (fmul 4503599627370496 adj).bind fun mn =>
  (need (!(fgt mn 9218868437227405311))).bind fun _ =>
  (need (zA7 mn)).bind fun _ =>
  (need (!(feq 0 mn))).bind fun _ =>
  (need (!(fgt 0 mn))).bind fun _ =>
  (fsub 4746794007244308480 off).bind fun c1 =>
  (fdiv c1 mult).bind fun c2 =>
  (fsub c2 4607182418800017408).bind fun c3 =>
  (zHv c3).bind fun ex2 =>
  (need (ex2 == 9218868437227405312)).bind fun _ =>
  (expF 4649451482093607557).bind fun ex3 =>
  (fmul 4611686018427387904 adj).bind fun d1 =>
  (fdiv ex3 d1).bind fun d2 =>
  (fadd adj 4607182418800017408).bind fun d3 =>
  (fmul d2 d3).bind fun mx =>
  (need (!(fgt (negF mx) 9218868437227405311))).bind fun _ =>
  (need (zA7 mx)).bind fun _ =>
  (need (!(flt 9218868437227405312 mx))).bind fun _ =>
  some (mult,mn,mx)
set_option maxRecDepth 100000 in
set_option maxHeartbeats 1000000 in
theorem zPG (g:Nat) (off:Nat) (out0:Nat) (out1:Nat) (out2:Nat) (w:World) (h:zHA g off=some (out0,out1,out2)):Calls Tryz.prog 73 #[.float .f64 g,.float .f64 off] w fun e w'=>Made 145 g off out0 out1 out2 w e w':=by
  unfold zHA at h
  simp only [Option.bind_eq_some_iff] at h
  obtain ⟨_u1,e1,l,e2,mult,e3,adj,e4,a1,e5,a2,e6,a3,e7,ex1,e8,_u9,e9,mn,e12,_u13,e13,_u14,e14,_u15,e15,_u16,e16,c1,e17,c2,e18,c3,e19,ex2,e20,_u21,e21,ex3,e24,d1,e25,d2,e26,d3,e27,mx,e28,_u29,e29,_u30,e30,_u31,e31,hout⟩:=h
  simp only [Option.some.injEq,Prod.mk.injEq] at hout
  obtain ⟨ho0,ho1,ho2⟩:=hout
  have q1:(FloatKind.f64.format.order g 4607182418800017408 == some .lt||FloatKind.f64.format.order g 4607182418800017408 == some .eq)=false:=zAE e1
  have q2:=fun w=>zFM g l w e2
  have q3:=fun w:World=>run_float_arith (P:=Tryz.prog) w .quo 29 .f64 4607182418800017408 l mult e3
  have q4:=fun w=>zIe g 4607226943766636671 adj w e4
  have q5:=fun w:World=>run_float_arith (P:=Tryz.prog) w .sub 29 .f64 13970166044103278592 off a1 e5
  have q6:=fun w:World=>run_float_arith (P:=Tryz.prog) w .quo 29 .f64 a1 mult a2 e6
  have q7:=fun w:World=>run_float_arith (P:=Tryz.prog) w .add 29 .f64 a2 4607182418800017408 a3 e7
  have q8:=fun w=>zGi a3 ex1 w e8
  have q9:=zAO e9
  have hx1:ex1=0:=by simpa using q9
  subst hx1
  have q12:=fun w:World=>run_float_arith (P:=Tryz.prog) w .mul 29 .f64 4503599627370496 adj mn e12
  have q13:(FloatKind.f64.format.order mn 9218868437227405311 == some .gt)=false:=zAE e13
  have q14:=zAO e14
  have q15:(FloatKind.f64.format.order 0 mn == some .eq)=false:=zAE e15
  have q16:(FloatKind.f64.format.order 0 mn == some .gt)=false:=zAE e16
  have q17:=fun w:World=>run_float_arith (P:=Tryz.prog) w .sub 29 .f64 4746794007244308480 off c1 e17
  have q18:=fun w:World=>run_float_arith (P:=Tryz.prog) w .quo 29 .f64 c1 mult c2 e18
  have q19:=fun w:World=>run_float_arith (P:=Tryz.prog) w .sub 29 .f64 c2 4607182418800017408 c3 e19
  have q20:=fun w=>zGi c3 ex2 w e20
  have q21:=zAO e21
  have hx2:ex2=9218868437227405312:=by simpa using q21
  subst hx2
  have q24:=fun w=>zDH 4649451482093607557 ex3 w e24
  have q25:=fun w:World=>run_float_arith (P:=Tryz.prog) w .mul 29 .f64 4611686018427387904 adj d1 e25
  have q26:=fun w:World=>run_float_arith (P:=Tryz.prog) w .quo 29 .f64 ex3 d1 d2 e26
  have q27:=fun w:World=>run_float_arith (P:=Tryz.prog) w .add 29 .f64 adj 4607182418800017408 d3 e27
  have q28:=fun w:World=>run_float_arith (P:=Tryz.prog) w .mul 29 .f64 d2 d3 mx e28
  have q29:=zAE e29
  have q30:=zAO e30
  have q31:(FloatKind.f64.format.order 9218868437227405312 mx == some .lt)=false:=zAE e31
  clear e1 e2 e3 e4 e5 e6 e7 e8 e9 e12 e13 e14 e15 e16 e17 e18 e19 e20 e21 e24 e25 e26 e27 e28 e29 e30 e31
  subst ho0 ho1 ho2
  have hmax:=fun w=>zKw mn w q13 q14 q15 q16
  have hmin:=fun w=>zKp mx w q29 q30 q31
  go_enter Tryz.func73,Tryz.ntmps73
  go_wp2_with (first | (go_at_call 82; with_reducible refine (hmax w).mono ?_; rintro e w' ⟨rfl,rfl⟩) | (go_at_call 84; with_reducible refine (hmin w).mono ?_; rintro e w' ⟨rfl,rfl⟩) | (first | (go_at_call 71; with_reducible refine (q2 w).mono ?_; rintro e w' ⟨rfl,rfl⟩) | (go_at_call 70; with_reducible refine (q4 w).mono ?_; rintro e w' ⟨rfl,rfl⟩) | (go_at_call 87; with_reducible refine (q8 w).mono ?_; rintro e w' ⟨rfl,rfl⟩) | (go_at_call 87; with_reducible refine (q20 w).mono ?_; rintro e w' ⟨rfl,rfl⟩) | (go_at_call 83; with_reducible refine (q24 w).mono ?_; rintro e w' ⟨rfl,rfl⟩)))
  go_ret2
  exact ⟨w.heap.size,rfl,Nat.le_refl _,heap_alloc_new w _,(Below.refl _ w).alloc (Nat.le_refl _) _⟩
def zGC (a:Nat):Option (Nat × Nat × Nat × Nat × Nat) :=
  (need (!(fle a 0))).bind fun _ =>
  (need (!(fge a 4607182418800017408))).bind fun _ =>
  (fadd 4607182418800017408 a).bind fun n =>
  (fsub 4607182418800017408 a).bind fun d =>
  (fdiv n d).bind fun g =>
  (some (0)).bind fun off =>
  (zG8 g 0).bind fun ⟨mult,mn,mx⟩ =>
  some (g,off,mult,mn,mx)
set_option maxRecDepth 100000 in
set_option maxHeartbeats 400000 in
theorem zR6 (a:Nat) (out0:Nat) (out1:Nat) (out2:Nat) (out3:Nat) (out4:Nat) (w:World) (h:zGC a=some (out0,out1,out2,out3,out4)):Calls Tryz.prog 51 #[.float .f64 a] w fun e w'=>Made 143 out0 out1 out2 out3 out4 w e w':=by
  unfold zGC at h
  simp only [Option.bind_eq_some_iff,Prod.exists] at h
  obtain ⟨_u1,e1,_u2,e2,n,e3,d,e4,g,e5,off,e6,mult,mn,mx,e8,hout⟩:=h
  simp only [Option.some.injEq,Prod.mk.injEq] at hout
  obtain ⟨ho0,ho1,ho2,ho3,ho4⟩:=hout
  have q1:(FloatKind.f64.format.order a 0 == some .lt||FloatKind.f64.format.order a 0 == some .eq)=false:=zAE e1
  have q2:(FloatKind.f64.format.order a 4607182418800017408 == some .gt||FloatKind.f64.format.order a 4607182418800017408 == some .eq)=false:=zAE e2
  have q3:=fun w:World=>run_float_arith (P:=Tryz.prog) w .add 29 .f64 4607182418800017408 a n e3
  have q4:=fun w:World=>run_float_arith (P:=Tryz.prog) w .sub 29 .f64 4607182418800017408 a d e4
  have q5:=fun w:World=>run_float_arith (P:=Tryz.prog) w .quo 29 .f64 n d g e5
  have q6:=Option.some.inj e6
  subst q6
  have q8:=fun w=>zPE g 0 mult mn mx w e8
  clear e1 e2 e3 e4 e5 e6 e8
  subst ho0 ho1 ho2 ho3 ho4
  go_enter Tryz.func51,Tryz.ntmps51
  go_wp2_with (first | (go_at_call 69; (with_reducible refine (q8 w).mono ?_); rintro e w' ⟨p,rfl,hp,hh,hb⟩) | fail)
  go_ret2
  exact ⟨p,rfl,hp,hh,hb⟩
def zGD (a:Nat):Option (Nat × Nat × Nat × Nat × Nat) :=
  (need (!(fle a 0))).bind fun _ =>
  (need (!(fge a 4607182418800017408))).bind fun _ =>
  (fadd 4607182418800017408 a).bind fun n =>
  (fsub 4607182418800017408 a).bind fun d =>
  (fdiv n d).bind fun b =>
  (powF b 4604418534313441775).bind fun g =>
  (zIp g).bind fun l =>
  (fdiv 4607182418800017408 l).bind fun off =>
  (zG9 g off).bind fun ⟨mult,mn,mx⟩ =>
  some (g,off,mult,mn,mx)
set_option maxRecDepth 100000 in
set_option maxHeartbeats 400000 in
theorem zR8 (a:Nat) (out0:Nat) (out1:Nat) (out2:Nat) (out3:Nat) (out4:Nat) (w:World) (h:zGD a=some (out0,out1,out2,out3,out4)):Calls Tryz.prog 52 #[.float .f64 a] w fun e w'=>Made 144 out0 out1 out2 out3 out4 w e w':=by
  unfold zGD at h
  simp only [Option.bind_eq_some_iff,Prod.exists] at h
  obtain ⟨_u1,e1,_u2,e2,n,e3,d,e4,b,e5,g,e6,l,e7,off,e8,mult,mn,mx,e9,hout⟩:=h
  simp only [Option.some.injEq,Prod.mk.injEq] at hout
  obtain ⟨ho0,ho1,ho2,ho3,ho4⟩:=hout
  have q1:(FloatKind.f64.format.order a 0 == some .lt||FloatKind.f64.format.order a 0 == some .eq)=false:=zAE e1
  have q2:(FloatKind.f64.format.order a 4607182418800017408 == some .gt||FloatKind.f64.format.order a 4607182418800017408 == some .eq)=false:=zAE e2
  have q3:=fun w:World=>run_float_arith (P:=Tryz.prog) w .add 29 .f64 4607182418800017408 a n e3
  have q4:=fun w:World=>run_float_arith (P:=Tryz.prog) w .sub 29 .f64 4607182418800017408 a d e4
  have q5:=fun w:World=>run_float_arith (P:=Tryz.prog) w .quo 29 .f64 n d b e5
  have q6:=fun w=>zIe b 4604418534313441775 g w e6
  have q7:=fun w=>zFM g l w e7
  have q8:=fun w:World=>run_float_arith (P:=Tryz.prog) w .quo 29 .f64 4607182418800017408 l off e8
  have q9:=fun w=>zPF g off mult mn mx w e9
  clear e1 e2 e3 e4 e5 e6 e7 e8 e9
  subst ho0 ho1 ho2 ho3 ho4
  go_enter Tryz.func52,Tryz.ntmps52
  go_wp2_with (first | (go_at_call 72; (with_reducible refine (q9 w).mono ?_); rintro e w' ⟨p,rfl,hp,hh,hb⟩) | (first | (go_at_call 70; with_reducible refine (q6 w).mono ?_; rintro e w' ⟨rfl,rfl⟩) | (go_at_call 71; with_reducible refine (q7 w).mono ?_; rintro e w' ⟨rfl,rfl⟩)))
  go_ret2
  exact ⟨p,rfl,hp,hh,hb⟩
def zGE (a:Nat):Option (Nat × Nat × Nat × Nat × Nat) :=
  (need (!(fle a 0))).bind fun _ =>
  (need (!(fge a 4607182418800017408))).bind fun _ =>
  (fadd 4607182418800017408 a).bind fun n =>
  (fsub 4607182418800017408 a).bind fun d =>
  (fdiv n d).bind fun b =>
  (powF b 4607094240642655501).bind fun g =>
  (some (0)).bind fun off =>
  (zHA g 0).bind fun ⟨mult,mn,mx⟩ =>
  some (g,off,mult,mn,mx)
set_option maxRecDepth 100000 in
set_option maxHeartbeats 400000 in
theorem zSA (a:Nat) (out0:Nat) (out1:Nat) (out2:Nat) (out3:Nat) (out4:Nat) (w:World) (h:zGE a=some (out0,out1,out2,out3,out4)):Calls Tryz.prog 53 #[.float .f64 a] w fun e w'=>Made 145 out0 out1 out2 out3 out4 w e w':=by
  unfold zGE at h
  simp only [Option.bind_eq_some_iff,Prod.exists] at h
  obtain ⟨_u1,e1,_u2,e2,n,e3,d,e4,b,e5,g,e6,off,e7,mult,mn,mx,e9,hout⟩:=h
  simp only [Option.some.injEq,Prod.mk.injEq] at hout
  obtain ⟨ho0,ho1,ho2,ho3,ho4⟩:=hout
  have q1:(FloatKind.f64.format.order a 0 == some .lt||FloatKind.f64.format.order a 0 == some .eq)=false:=zAE e1
  have q2:(FloatKind.f64.format.order a 4607182418800017408 == some .gt||FloatKind.f64.format.order a 4607182418800017408 == some .eq)=false:=zAE e2
  have q3:=fun w:World=>run_float_arith (P:=Tryz.prog) w .add 29 .f64 4607182418800017408 a n e3
  have q4:=fun w:World=>run_float_arith (P:=Tryz.prog) w .sub 29 .f64 4607182418800017408 a d e4
  have q5:=fun w:World=>run_float_arith (P:=Tryz.prog) w .quo 29 .f64 n d b e5
  have q6:=fun w=>zIe b 4607094240642655501 g w e6
  have q7:=Option.some.inj e7
  subst q7
  have q9:=fun w=>zPG g 0 mult mn mx w e9
  clear e1 e2 e3 e4 e5 e6 e7 e9
  subst ho0 ho1 ho2 ho3 ho4
  go_enter Tryz.func53,Tryz.ntmps53
  go_wp2_with (first | (go_at_call 73; (with_reducible refine (q9 w).mono ?_); rintro e w' ⟨p,rfl,hp,hh,hb⟩) | (first | (go_at_call 70; with_reducible refine (q6 w).mono ?_; rintro e w' ⟨rfl,rfl⟩)))
  go_ret2
  exact ⟨p,rfl,hp,hh,hb⟩
end Go.Proofs.YtllaekopaglolaaGreat
end
