/-
  The same,more: Ldexp,the root's digits,the cube root's bits,the other sign.
-/
import Derived.Test.YtllaekopaglolaaGreatHAG
import Derived.Test.YtllaekopaglolaaGreatHAF
import Derived.BigQuiet
section
namespace Go.Proofs.YtllaekopaglolaaGreat
open Go.RowKit
open Ieee
set_option exponentiation.threshold 5000
def qneg (x:Nat):Nat:=Nat.xor x 9223372036854775808
theorem zKi (x:Nat):negF x=qneg x:=by
  have h:(2:Nat)^63=9223372036854775808:=by decide
  show x ^^^ 2^63=x ^^^ 9223372036854775808
  rw [h]
theorem zSK {y:Nat} (h1:4503599627370496≤y) (h2:y<9142307245003341824):fmul 4607182418800017408 y=some y:=by
  have hx:FV 4607182418800017408 (PV false 4503599627370496 1022):=zDv (x:=4607182418800017408) (by decide) (by decide)
  have hy:=zDv h1 (by omega)
  obtain ⟨M,hM⟩:∃ M,M=4503599627370496+y % 4503599627370496:=⟨_,rfl⟩
  obtain ⟨e,he⟩:∃ e,e=y / 4503599627370496 - 1:=⟨_,rfl⟩
  rw [← hM,← he] at hy
  have he2:e≤2029:=by omega
  have hM1:4503599627370496≤M:=by omega
  have hM2:M<9007199254740992:=by omega
  have hl:M.log2=52:=by
    refine (Nat.log2_eq_iff (by omega)).2 ⟨?_,?_⟩
    · have:(2:Nat)^52=4503599627370496:=by decide
      omega
    · have:(2:Nat)^(52+1)=9007199254740992:=by decide
      omega
  have h52:(2:Nat)^52=4503599627370496:=by decide
  have hn:4503599627370496*M≠0:=by omega
  have hlog:(4503599627370496*M).log2=104:=by
    rw [← h52,Nat.mul_comm,zAX _ _ (by omega),hl]
  have hv:=zOm false false 4503599627370496 M 1022 e
  rw [Bool.xor_self] at hv
  obtain ⟨z,hz,hf⟩:=zCQ hx hy (by rw [hv,zDZ,zAX _ _ (by omega),hlog]; omega)
  rw [hv,zGz 1074 false _ _ (1074+e) hn (by rw [hlog]; omega) (by omega)] at hf
  have e1:4503599627370496*M*2^(1022+e)=M*2^(1074+e):=by
    rw [show 1074+e=52+(1022+e) from by omega,Nat.pow_add 2 52,h52]
    rw [Nat.mul_comm 4503599627370496 M,Nat.mul_assoc]
  rw [e1,zBe,show 1074+e - 1074=e from by omega] at hf
  show floatBits .mul .f64 4607182418800017408 y=some y
  rw [hz,zGL hf hM1 (by omega),zGL hy hM1 (by omega)]
def zRr (c x n:Nat):Nat:=Nat.add (Nat.mul n c) (Nat.mod x c)
def zJU (x:Nat) (k:Int):Option Nat :=
  wn (Int.toNat (Int.add k (Int.ofNat (Nat.div x 4503599627370496)))) fun n =>
  bif posB x&&(Nat.blt 0 n&&Nat.blt n 2030) then wn (zRr 4503599627370496 x n) some else zGI x k
theorem zHR (n:Int) (c k:Nat) (hk:k≤32) (hc:(c:Int)=2^k - 1):bits .and .i64 n (c:Int)=n % 2^k:=by
  have hp:2^k≤2^32:=Nat.pow_le_pow_right (by decide) hk
  have h32:(2:Nat)^32=4294967296:=by decide
  have hpos:=Nat.two_pow_pos k
  have hcn:c=2^k - 1:=by
    have:((2:Int)^k)=((2^k:Nat):Int):=by rw [Int.natCast_pow]; rfl
    omega
  have h1:(BitVec.ofInt 64 (c:Int)).toNat=2^k - 1:=by
    rw [BitVec.toNat_ofInt,← hcn]
    have e:(((c:Int)) % ((2^64:Nat):Int)).toNat=c:=by
      have:(2:Nat)^64=18446744073709551616:=by decide
      rw [this]; omega
    exact e
  have key:(BitVec.ofInt 64 n &&& BitVec.ofInt 64 (c:Int)).toNat=(n % ((2^64:Nat):Int)).toNat % 2^k:=by
    rw [BitVec.toNat_and,BitVec.toNat_ofInt,h1,Nat.and_two_pow_sub_one_eq_mod]
  show IntKind.i64.wrap ((BitVec.ofInt 64 n &&& BitVec.ofInt 64 (c:Int)).toNat:Nat)=n % 2^k
  rw [key,IntKind.wrap_i64]
  have hd:((2^k:Nat):Int) ∣ ((2^64:Nat):Int):=Int.natCast_dvd_natCast.2 (Nat.pow_dvd_pow 2 (by omega))
  have e2:(((n % ((2^64:Nat):Int)).toNat % 2^k:Nat):Int)=n % ((2^k:Nat):Int):=by
    have hnn:0≤n % ((2^64:Nat):Int):=Int.emod_nonneg _ (by have:=Nat.two_pow_pos 64; omega)
    rw [Int.natCast_emod,Int.toNat_of_nonneg hnn,Int.emod_emod_of_dvd _ hd]
  rw [e2]
  have e3:(2:Int)^k=((2^k:Nat):Int):=by rw [Int.natCast_pow]; rfl
  rw [e3]
  have b1:=Int.emod_nonneg n (show ((2^k:Nat):Int)≠0 by omega)
  have b2:=Int.emod_lt_of_pos n (show (0:Int)<((2^k:Nat):Int) by omega)
  generalize n % ((2^k:Nat):Int)=r at *
  generalize 2^k=P at *
  omega
theorem zTL (E:Nat) (h:E<2048):bits .and .i64 (E:Int) 2047=(E:Int):=by
  have:=zHR (E:Int) 2047 11 (by decide) (by decide)
  rw [show ((2047:Nat):Int)=2047 from rfl] at this
  rw [this,show (2:Int)^11=2048 from by decide]
  omega
theorem zM4 (x:Nat) (k:Int):zGI x k=zJU x k:=by
  unfold zJU
  rw [zAq]
  obtain ⟨n,hn⟩:∃ n,n=Int.toNat (Int.add k (Int.ofNat (Nat.div x 4503599627370496))):=⟨_,rfl⟩
  rw [← hn]
  cases h:posB x&&(Nat.blt 0 n&&Nat.blt n 2030)
  · rw [cond_false]
  · rw [Bool.and_eq_true,Bool.and_eq_true] at h
    obtain ⟨hp,hn1,hn2⟩:=h
    have c1:0<n:=Nat.blt_eq ▸ hn1
    have c2:n<2030:=Nat.blt_eq ▸ hn2
    obtain ⟨a,b⟩:=zCN hp
    rw [cond_true,zAq]
    have hx:=zDv a (by omega)
    have hpv:=zOl (m:=4503599627370496+x % 4503599627370496) (e:=x / 4503599627370496 - 1) (by omega)
    have g1:feq x 0=false:=by rw [zGO hx zA0]; exact decide_eq_false (by omega)
    have g2:zA7 x=true:=zDC hx
    have g3:zED x=true:=by rw [zEC]; unfold zDt; rw [zDf hp]; rfl
    have g4:flt (absF x) 4503599627370496=false:=by
      rw [zDp x (by omega),Nat.mod_eq_of_lt (by omega),zCh]
      unfold qlt
      rw [zDf hp,show finB 4503599627370496=true from by decide,Bool.and_self,cond_true,zBo,decide_eq_false (by omega),cond_false,show Nat.ble 9223372036854775808 4503599627370496=false from by decide,cond_false,zBP]
      exact decide_eq_false (by omega)
    obtain ⟨E,hE⟩:∃ E,E=x / 4503599627370496:=⟨_,rfl⟩
    have hn':n=(k+(E:Int)).toNat:=by rw [hn,hE]; rfl
    have hk:k=(n:Int) - (E:Int):=by omega
    have hE2:E<2048:=by omega
    have eE:(x:Int) / 4503599627370496=(E:Int):=by rw [hE]; omega
    have w1:wrap64 (E:Int)=(E:Int):=by unfold wrap64; omega
    have w2:wrap64 (wrap64 k+wrap64 ((E:Int) - 1023))=(n:Int) - 1023:=by rw [hk]; unfold wrap64; omega
    unfold zGI
    rw [g1,g2,g3,g4,eE,w1,zTL E hE2]
    simp only [Option.bind_some,w2,zJA x (by omega)]
    have e5:((n:Int) - 1023+1023)*4503599627370496=((n*4503599627370496:Nat):Int):=by
      rw [Int.natCast_mul,Int.sub_add_cancel]; rfl
    have e1:=zIV (x % 4503599627370496) n (by omega) (by omega) (n*4503599627370496) rfl
    rw [e5,e1]
    have hd:(decide (-1022≤(n:Int) - 1023)&&decide ((n:Int) - 1023≤1023))=true:=by
      rw [decide_eq_true (by omega),decide_eq_true (by omega)]; rfl
    rw [hd]
    have hy:zRr 4503599627370496 x n=x % 4503599627370496+n*4503599627370496:=by
      show n*4503599627370496+x % 4503599627370496=_
      rw [Nat.add_comm]
    rw [hy,Int.toNat_natCast,zSK (y:=x % 4503599627370496+n*4503599627370496) (by omega) (by omega)]
    rfl
def zKX:Nat→Nat→Nat→Nat→Nat × Nat
  | 0,ix,q,_=>(ix,q)
  | n+1,ix,q,s=>wn (Nat.mod (Nat.add s (Nat.pow 2 n)) 18446744073709551616) fun t =>
    bif Nat.ble t ix then wn (Nat.mod (Nat.mul (Nat.sub ix t) 2) 18446744073709551616) fun ix=>wn (Nat.mod (Nat.add q (Nat.pow 2 n)) 18446744073709551616) fun q=>wn (Nat.mod (Nat.add t (Nat.pow 2 n)) 18446744073709551616) fun s=>zKX n ix q s
    else wn (Nat.mod (Nat.mul ix 2) 18446744073709551616) fun ix=>zKX n ix q s
theorem zRT:∀ (n ix q s:Nat),sqGo n ix q s=zKX n ix q s
  | 0,_,_,_=>rfl
  | n+1,ix,q,s=>by
    unfold sqGo zKX
    rw [zAq,zAq,zAq,zAq,zAq,zBo]
    show _=bif decide ((s+2^n) % 18446744073709551616≤ix) then zKX n ((ix - (s+2^n) % 18446744073709551616)*2 % 18446744073709551616) ((q+2^n) % 18446744073709551616) (((s+2^n) % 18446744073709551616+2^n) % 18446744073709551616) else zKX n (ix*2 % 18446744073709551616) q s
    split
    · rename_i h; rw [decide_eq_true h,cond_true,zRT n]
    · rename_i h; rw [decide_eq_false h,cond_false,zRT n]
def addN (a b:Nat):Nat:=Nat.add a b
theorem zEx (a b:Nat):addN a b=a+b:=rfl
def subN (a b:Nat):Nat:=Nat.sub a b
theorem zVf (a b:Nat):subN a b=a - b:=rfl
def modN (a b:Nat):Nat:=Nat.mod a b
theorem zFs (a b:Nat):modN a b=a % b:=rfl
def divN (a b:Nat):Nat:=Nat.div a b
theorem zNR (a b:Nat):divN a b=a / b:=rfl
def mulN (a b:Nat):Nat:=Nat.mul a b
theorem zKk (a b:Nat):mulN a b=a*b:=rfl
def qc0 (y:Nat):Nat:=bif Nat.blt y 9223372036854775808 then wn (addN (divN y 3) 3071306043645493248) id else (IntKind.u64.wrap (IntKind.u64.wrap ((y:Int) / 3)+3071306043645493248)).toNat
theorem c0_q (y:Nat):(IntKind.u64.wrap (IntKind.u64.wrap ((y:Int) / 3)+3071306043645493248)).toNat=qc0 y:=by
  unfold qc0
  cases h:Nat.blt y 9223372036854775808
  · rw [cond_false]
  · have c:y<9223372036854775808:=Nat.blt_eq ▸ h
    rw [cond_true,zAq,IntKind.wrap_u64,IntKind.wrap_u64,zEx,zNR,id_eq]
    omega
def qc1 (t:Nat):Nat:=bif Nat.blt t 18446744072635809792 then wn (addN (subN t (modN t 1073741824)) 1073741824) id else (IntKind.u64.wrap (bits .and .u64 (t:Int) 18446744072635809792+1073741824)).toNat
theorem c1_q (t:Nat):(IntKind.u64.wrap (bits .and .u64 (t:Int) 18446744072635809792+1073741824)).toNat=qc1 t:=by
  unfold qc1
  cases h:Nat.blt t 18446744072635809792
  · rw [cond_false]
  · have c:t<18446744072635809792:=Nat.blt_eq ▸ h
    have e0:bits .and .u64 (t:Int) 18446744072635809792=((t - t % 1073741824:Nat):Int):=by
      rw [show (18446744072635809792:Int)=((18446744072635809792:Nat):Int) from rfl,u64_and_nat _ _ (by omega) (by decide)]
      have:=zKE t 30 34
      rw [show ((2:Nat)^34 - 1)*2^30=18446744072635809792 from by decide] at this
      rw [this]
      have e30:(2:Nat)^30=1073741824:=by decide
      have e34:(2:Nat)^34=17179869184:=by decide
      rw [e30,e34]
      omega
    rw [cond_true,zAq,e0,IntKind.wrap_u64,zEx,zVf,zFs,id_eq]
    omega
def zNw (E:Nat) (p:Nat × Nat):Nat :=
  match p with
  | (i,q)=>wn (bif Nat.beq i 0 then q else modN (addN q (modN q 2)) 18446744073709551616) fun q=>wn (modN (addN (divN q 2) (mulN (addN (divN (addN E 1) 2) 510) 4503599627370496)) 18446744073709551616) id
theorem zRq (E:Nat) (p:Nat × Nat) (R:Nat) (hR:R=if p.1=0 then p.2 else (p.2+p.2 % 2) % 18446744073709551616):zNw E p=(R / 2+((E+1) / 2+510)*4503599627370496) % 18446744073709551616:=by
  obtain ⟨I,Q⟩:=p
  unfold zNw
  dsimp only at hR ⊢
  rw [zAq,zAq,zEX,zEx,zFs,zFs,zFs,zEx,zNR,zKk,zEx,zNR,zEx,id_eq,Bool.cond_decide,← hR]
def zNv (n E x:Nat):Nat :=
  wn (bif Nat.beq (modN E 2) 0 then mulN (addN (modN x 4503599627370496) 4503599627370496) 2 else addN (modN x 4503599627370496) 4503599627370496) fun ix3 =>
  zNw E (zKX n (mulN ix3 2) 0 0)
theorem zRp (n E x Y:Nat) (hY:Y=if E % 2=0 then (x % 4503599627370496+4503599627370496)*2 else x % 4503599627370496+4503599627370496):zNv n E x=zNw E (sqGo n (Y*2) 0 0):=by
  unfold zNv
  rw [zAq,zEX,zFs,zFs,zEx,zKk,zKk,Bool.cond_decide,← hY,zRT]
def zVn (x:Nat):Option Nat:=bif posB x then some (zNv 54 (Nat.div x 4503599627370496) x) else zO2 x
theorem zTr (R F:Nat) (h:F<2048):(IntKind.u64.wrap ((R:Int) / 2+IntKind.u64.wrap (IntKind.u64.wrap (F:Int)*4503599627370496))).toNat=(R / 2+F*4503599627370496) % 18446744073709551616:=by
  have h1:IntKind.u64.wrap (F:Int)=(F:Int):=by rw [IntKind.wrap_u64]; omega
  have h2:IntKind.u64.wrap ((F:Int)*4503599627370496)=((F*4503599627370496:Nat):Int):=by
    rw [IntKind.wrap_u64,Int.natCast_mul,show ((4503599627370496:Nat):Int)=4503599627370496 from rfl]; omega
  rw [h1,h2,show (R:Int) / 2=((R / 2:Nat):Int) from by omega,← Int.natCast_add,zAY,Int.toNat_natCast]
theorem zWe (x:Nat):zO2 x=zVn x:=by
  unfold zVn
  cases hp:posB x
  · rw [cond_false]
  · obtain ⟨a,b⟩:=zCN hp
    rw [cond_true]
    have hx:=zDv a (by omega)
    have hpv:=zOl (m:=4503599627370496+x % 4503599627370496) (e:=x / 4503599627370496 - 1) (by omega)
    have g1:feq x 0=false:=by rw [zGO hx zA0]; exact decide_eq_false (by omega)
    have g2:zA7 x=true:=zDC hx
    have g3:fgt x 9218868437227405311=false:=by
      rw [zEu]
      unfold qgt qlt
      rw [zDf hp,show finB 9218868437227405311=true from by decide,Bool.and_self,cond_true,cond_true,show Nat.ble 9223372036854775808 9218868437227405311=false from by decide,cond_false,zBo,decide_eq_false (by omega),cond_false,zBP,decide_eq_false (by omega)]
    have g4:flt x 0=false:=by rw [zBD hx zA0]; exact decide_eq_false (by omega)
    have hE:Nat.div x 4503599627370496=x / 4503599627370496:=rfl
    rw [hE]
    have f1:=zNX x (by omega)
    have f2:=zJA x (by omega)
    obtain ⟨E,hEE⟩:∃ E,E=x / 4503599627370496:=⟨_,rfl⟩
    rw [← hEE] at f1 ⊢
    have hE1:0<E:=by omega
    have hE2:E<2048:=by omega
    have w1:wrap64 (E:Int)=(E:Int):=by unfold wrap64; omega
    have w2:wrap64 ((E:Int) - 1023)=(E:Int) - 1023:=by unfold wrap64; omega
    have e1:=zIV (x % 4503599627370496) 1 (by omega) (by decide) 4503599627370496 (by decide)
    rw [show ((4503599627370496:Nat):Int)=4503599627370496 from rfl,Nat.one_mul] at e1
    obtain ⟨X,hX⟩:∃ X,X=x % 4503599627370496+4503599627370496:=⟨_,rfl⟩
    have hX2:X<9007199254740992:=by omega
    rw [← hX,← f2] at e1
    have d0:decide ((E:Int)=0)=false:=decide_eq_false (by omega)
    have ho:=zHR ((E:Int) - 1023) 1 1 (by decide) (by decide)
    rw [show ((1:Nat):Int)=1 from rfl,show (2:Int)^1=2 from rfl] at ho
    have hf:wrap64 (wrap64 (((E:Int) - 1023) / 2 - 1)+1023)=(((E+1) / 2+510:Nat):Int):=by unfold wrap64; omega
    have hpar:(decide (((E:Int) - 1023) % 2=1)=true)↔E % 2=0:=by rw [decide_eq_true_iff]; omega
    obtain ⟨Y,hY⟩:∃ Y,Y=if E % 2=0 then X*2 else X:=⟨_,rfl⟩
    have hY2:Y<18014398509481984:=by rw [hY]; split <;> omega
    have h3:(if decide (((E:Int) - 1023) % 2=1)=true then X*2 % 18446744073709551616 else X)=Y:=by
      rw [hY]
      by_cases h:E % 2=0
      · rw [if_pos (hpar.2 h),if_pos h]; omega
      · rw [if_neg (fun hc=>h (hpar.1 hc)),if_neg h]
    obtain ⟨p,hp2⟩:∃ p,p=sqGo 54 (Y*2) 0 0:=⟨_,rfl⟩
    obtain ⟨R,hR⟩:∃ R,R=if p.1=0 then p.2 else (p.2+p.2 % 2) % 18446744073709551616:=⟨_,rfl⟩
    have hN:zNv 54 E x=(R / 2+((E+1) / 2+510)*4503599627370496) % 18446744073709551616:=by
      rw [zRp 54 E x Y (by rw [hY,hX]),← hp2]
      exact zRq E p R hR
    rw [hN]
    unfold zO2
    simp only [Option.bind_eq_some_iff]
    refine ⟨(),by rw [g1]; rfl,(),by rw [g2]; rfl,(),by rw [g3]; rfl,(),by rw [g4]; rfl,(E:Int),by rw [f1,w1],(),by rw [d0]; rfl,(E:Int) - 1023,by rw [w2],X,by rw [e1,Int.toNat_natCast],(),by rw [e1,decide_eq_true rfl]; rfl,Y,by rw [ho,h3],p,by rw [Nat.mod_eq_of_lt (show Y*2<18446744073709551616 by omega),hp2],R,by rw [hR],?_⟩
    rw [hf,zTr R ((E+1) / 2+510) (by omega)]
end Go.Proofs.YtllaekopaglolaaGreat
end
/-
  The mappings: Index,LowerBound,RelativeAccuracy,Value,MinIndexableValue,MaxIndexableValue of each kind. (Printed by gen_idx3.py.)
-/
section
namespace Go.Proofs.YtllaekopaglolaaGreat
open Go.RowKit
def Map5 (t:TypeId) (w:World) (m g off mult mn mx:Nat):Prop:=w.heap[m]?=some (.cells #[.float .f64 g,.float .f64 off,.float .f64 mult,.float .f64 mn,.float .f64 mx] t (0,0))
theorem zAw {t:TypeId} {w:World} {m g off mult mn mx:Nat} (h:Map5 t w m g off mult mn mx) :
    w.cell? ⟨m,0,none⟩=some (.float .f64 g)∧w.cell? ⟨m,1,none⟩=some (.float .f64 off)∧w.cell? ⟨m,2,none⟩=some (.float .f64 mult)∧w.cell? ⟨m,3,none⟩=some (.float .f64 mn)∧w.cell? ⟨m,4,none⟩=some (.float .f64 mx):=by
  unfold Map5 at h
  refine ⟨?_,?_,?_,?_,?_⟩ <;> (unfold World.cell?; simp [h])
def zDz (v:Value) (w:World) (e:Ending) (w':World):Prop:=e = .returned v∧∃ m,w'=w.drewN m
def zDw (x:Nat):Option Int:=(floatToIntVal .f64 x .i64).map fun n=>if fge x 0=true then n else wrap64 (n - 1)
def zCv (off mult v:Nat):Option Int :=
  (logF v).bind fun l=>(fmul l mult).bind fun a=>(fadd a off).bind fun x=>zDw x
set_option maxRecDepth 100000 in
set_option maxHeartbeats 1000000 in
theorem zQg (m g off mult mn mx v:Nat) (i:Int) (w:World) (hc:Map5 143 w m g off mult mn mx) (h:zCv off mult v=some i) :
    Calls Tryz.prog 132 #[.pointer (some ⟨m,0,none⟩),.float .f64 v] w fun e w'=>zDz (.int .i64 i) w e w':=by
  unfold zCv at h
  simp only [Option.bind_eq_some_iff] at h
  obtain ⟨l,hl,a,ha,x,hx,hi⟩:=h
  have qa:=fun w:World=>run_float_arith (P:=Tryz.prog) w .mul 29 .f64 l mult a ha
  have qx:=fun w:World=>run_float_arith (P:=Tryz.prog) w .add 29 .f64 a off x hx
  unfold zDw at hi
  obtain ⟨n,hn,he⟩:=Option.map_eq_some_iff.1 hi
  have qn:=fun w=>run_convert_float_int (P:=Tryz.prog) w 29 3 .f64 .i64 x n (by simp [Tryz.underlying29]) Tryz.underlying3 hn
  obtain ⟨hg,ho,hm,-,-⟩:=zAw hc
  clear ha hx hi hn hc
  cases hs:fge x 0
  · have hs':(FloatKind.f64.format.order x 0 == some .gt||FloatKind.f64.format.order x 0 == some .eq)=false:=hs
    rw [hs] at he
    have he':wrap64 (n - 1)=i:=he
    clear he hs
    go_enter Tryz.func132,Tryz.ntmps132
    go_wp2_with fail
    go_quiet (first | (go_at_call 81; refine zAl (zFt v l _ hl)))
    go_wp2
    go_ret
    exact ⟨by rw [← he']; rfl,_,rfl⟩
  · have hs':(FloatKind.f64.format.order x 0 == some .gt||FloatKind.f64.format.order x 0 == some .eq)=true:=hs
    rw [hs] at he
    have he':n=i:=he
    clear he hs
    go_enter Tryz.func132,Tryz.ntmps132
    go_wp2_with fail
    go_quiet (first | (go_at_call 81; refine zAl (zFt v l _ hl)))
    go_wp2
    go_ret
    exact ⟨by rw [← he']; rfl,_,rfl⟩
def zCY (off mult:Nat) (i:Int):Option Nat :=
  (fsub (floatOfInt .f64 i) off).bind fun d=>(fdiv d mult).bind fun x=>expF x
set_option maxRecDepth 100000 in
set_option maxHeartbeats 1000000 in
theorem zGF (m g off mult mn mx:Nat) (i:Int) (r:Nat) (w:World) (hc:Map5 143 w m g off mult mn mx) (h:zCY off mult i=some r) :
    Calls Tryz.prog 133 #[.pointer (some ⟨m,0,none⟩),.int .i64 i] w fun e w'=>zDz (.float .f64 r) w e w':=by
  unfold zCY at h
  simp only [Option.bind_eq_some_iff] at h
  obtain ⟨d,hd,x,hx,hr⟩:=h
  obtain ⟨k,hk⟩:∃ k,floatOfInt .f64 i=k:=⟨_,rfl⟩
  rw [hk] at hd
  have qd:=fun w:World=>run_float_arith (P:=Tryz.prog) w .sub 29 .f64 k off d hd
  have qx:=fun w:World=>run_float_arith (P:=Tryz.prog) w .quo 29 .f64 d mult x hx
  obtain ⟨hg,ho,hm,-,-⟩:=zAw hc
  clear hd hx hc
  go_enter Tryz.func133,Tryz.ntmps133
  go_wp2_with fail
  go_quiet (first | (go_at_call 83; refine zAl (zDH x r _ hr)))
  go_wp2
  go_ret
  exact ⟨rfl,_,rfl⟩
def zEK (g:Nat):Option Nat :=
  (fadd 4607182418800017408 g).bind fun a=>(fdiv 4611686018427387904 a).bind fun b=>fsub 4607182418800017408 b
set_option maxRecDepth 100000 in
set_option maxHeartbeats 1000000 in
theorem zIX (m g off mult mn mx:Nat) (r:Nat) (w:World) (hc:Map5 143 w m g off mult mn mx) (h:zEK g=some r) :
    Calls Tryz.prog 136 #[.pointer (some ⟨m,0,none⟩)] w fun e w'=>e = .returned (.float .f64 r)∧w=w':=by
  unfold zEK at h
  simp only [Option.bind_eq_some_iff] at h
  obtain ⟨a,ha,b,hb,hr⟩:=h
  have qa:=fun w:World=>run_float_arith (P:=Tryz.prog) w .add 29 .f64 4607182418800017408 g a ha
  have qb:=fun w:World=>run_float_arith (P:=Tryz.prog) w .quo 29 .f64 4611686018427387904 a b hb
  have qr:=fun w:World=>run_float_arith (P:=Tryz.prog) w .sub 29 .f64 4607182418800017408 b r hr
  obtain ⟨hg,-,-,-,-⟩:=zAw hc
  clear ha hb hr hc
  go_enter Tryz.func136,Tryz.ntmps136
  go_wp2_with fail
  go_ret
  exact ⟨rfl,rfl⟩
def zD1 (g off mult:Nat) (i:Int):Option Nat :=
  (zCY off mult i).bind fun l=>(zEK g).bind fun a=>(fadd 4607182418800017408 a).bind fun b=>fmul l b
set_option maxRecDepth 100000 in
set_option maxHeartbeats 1000000 in
theorem zJI (m g off mult mn mx:Nat) (i:Int) (r:Nat) (w:World) (hc:Map5 143 w m g off mult mn mx) (h:zD1 g off mult i=some r) :
    Calls Tryz.prog 137 #[.pointer (some ⟨m,0,none⟩),.int .i64 i] w fun e w'=>zDz (.float .f64 r) w e w':=by
  unfold zD1 at h
  simp only [Option.bind_eq_some_iff] at h
  obtain ⟨l,hl,a,ha,b,hb,hr⟩:=h
  have qb:=fun w:World=>run_float_arith (P:=Tryz.prog) w .add 29 .f64 4607182418800017408 a b hb
  have qr:=fun w:World=>run_float_arith (P:=Tryz.prog) w .mul 29 .f64 l b r hr
  have HL:=zGF m g off mult mn mx i l w hc hl
  have HA:=fun k=>zIX m g off mult mn mx a (w.drewN k) hc ha
  clear hb hr hl ha hc
  go_enter Tryz.func137,Tryz.ntmps137
  go_wp2_with (first | (go_at_call 133; refine HL.mono ?_; rintro e w' ⟨rfl,k,rfl⟩) | (go_at_call 136; refine (HA _).mono ?_; rintro e w' ⟨rfl,rfl⟩))
  go_ret
  exact ⟨rfl,_,rfl⟩
set_option maxRecDepth 100000 in
theorem zJj (m g off mult mn mx:Nat) (w:World) (hc:Map5 143 w m g off mult mn mx) :
    Calls Tryz.prog 135 #[.pointer (some ⟨m,0,none⟩)] w fun e w'=>e = .returned (.float .f64 mn)∧w=w':=by
  obtain ⟨-,-,-,hg,-⟩:=zAw hc
  clear hc
  go_enter Tryz.func135,Tryz.ntmps135
  go_wp2
  go_ret
  exact ⟨rfl,rfl⟩
set_option maxRecDepth 100000 in
theorem zKm (m g off mult mn mx:Nat) (w:World) (hc:Map5 143 w m g off mult mn mx) :
    Calls Tryz.prog 134 #[.pointer (some ⟨m,0,none⟩)] w fun e w'=>e = .returned (.float .f64 mx)∧w=w':=by
  obtain ⟨-,-,-,-,hg⟩:=zAw hc
  clear hc
  go_enter Tryz.func134,Tryz.ntmps134
  go_wp2
  go_ret
  exact ⟨rfl,rfl⟩
def zCw (off mult v:Nat):Option Int :=
  (zEq v).bind fun l=>(fmul l mult).bind fun a=>(fadd a off).bind fun x=>zDw x
set_option maxRecDepth 100000 in
set_option maxHeartbeats 1000000 in
theorem zQh (m g off mult mn mx v:Nat) (i:Int) (w:World) (hc:Map5 144 w m g off mult mn mx) (h:zCw off mult v=some i) :
    Calls Tryz.prog 141 #[.pointer (some ⟨m,0,none⟩),.float .f64 v] w fun e w'=>zDz (.int .i64 i) w e w':=by
  unfold zCw at h
  simp only [Option.bind_eq_some_iff] at h
  obtain ⟨l,hl,a,ha,x,hx,hi⟩:=h
  have qa:=fun w:World=>run_float_arith (P:=Tryz.prog) w .mul 29 .f64 l mult a ha
  have qx:=fun w:World=>run_float_arith (P:=Tryz.prog) w .add 29 .f64 a off x hx
  unfold zDw at hi
  obtain ⟨n,hn,he⟩:=Option.map_eq_some_iff.1 hi
  have qn:=fun w=>run_convert_float_int (P:=Tryz.prog) w 29 3 .f64 .i64 x n (by simp [Tryz.underlying29]) Tryz.underlying3 hn
  obtain ⟨hg,ho,hm,-,-⟩:=zAw hc
  clear ha hx hi hn hc
  cases hs:fge x 0
  · have hs':(FloatKind.f64.format.order x 0 == some .gt||FloatKind.f64.format.order x 0 == some .eq)=false:=hs
    rw [hs] at he
    have he':wrap64 (n - 1)=i:=he
    clear he hs
    go_enter Tryz.func141,Tryz.ntmps141
    go_wp2_with fail
    go_quiet (first | (go_at_call 147; refine zAl (zIF v l _ _ hl)))
    go_wp2
    go_ret
    exact ⟨by rw [← he']; rfl,_,rfl⟩
  · have hs':(FloatKind.f64.format.order x 0 == some .gt||FloatKind.f64.format.order x 0 == some .eq)=true:=hs
    rw [hs] at he
    have he':n=i:=he
    clear he hs
    go_enter Tryz.func141,Tryz.ntmps141
    go_wp2_with fail
    go_quiet (first | (go_at_call 147; refine zAl (zIF v l _ _ hl)))
    go_wp2
    go_ret
    exact ⟨by rw [← he']; rfl,_,rfl⟩
def zCZ (off mult:Nat) (i:Int):Option Nat :=
  (fsub (floatOfInt .f64 i) off).bind fun d=>(fdiv d mult).bind fun x=>zHN x
set_option maxRecDepth 100000 in
set_option maxHeartbeats 1000000 in
theorem zGG (m g off mult mn mx:Nat) (i:Int) (r:Nat) (w:World) (hc:Map5 144 w m g off mult mn mx) (h:zCZ off mult i=some r) :
    Calls Tryz.prog 142 #[.pointer (some ⟨m,0,none⟩),.int .i64 i] w fun e w'=>zDz (.float .f64 r) w e w':=by
  unfold zCZ at h
  simp only [Option.bind_eq_some_iff] at h
  obtain ⟨d,hd,x,hx,hr⟩:=h
  obtain ⟨k,hk⟩:∃ k,floatOfInt .f64 i=k:=⟨_,rfl⟩
  rw [hk] at hd
  have qd:=fun w:World=>run_float_arith (P:=Tryz.prog) w .sub 29 .f64 k off d hd
  have qx:=fun w:World=>run_float_arith (P:=Tryz.prog) w .quo 29 .f64 d mult x hx
  obtain ⟨hg,ho,hm,-,-⟩:=zAw hc
  clear hd hx hc
  go_enter Tryz.func142,Tryz.ntmps142
  go_wp2_with fail
  go_quiet (first | (go_at_call 148; refine zAl (zQd x r _ _ hr)))
  go_wp2
  go_ret
  exact ⟨rfl,_,rfl⟩
def zEL (g:Nat):Option Nat :=
  (zIp g).bind fun l=>(expF l).bind fun e0=>(fadd 4607182418800017408 e0).bind fun a=>(fdiv 4611686018427387904 a).bind fun b=>fsub 4607182418800017408 b
set_option maxRecDepth 100000 in
set_option maxHeartbeats 1000000 in
theorem zIY (m g off mult mn mx:Nat) (r:Nat) (w:World) (hc:Map5 144 w m g off mult mn mx) (h:zEL g=some r) :
    Calls Tryz.prog 145 #[.pointer (some ⟨m,0,none⟩)] w fun e w'=>e = .returned (.float .f64 r)∧w=w':=by
  unfold zEL at h
  simp only [Option.bind_eq_some_iff] at h
  obtain ⟨l,hl,e0,he0,a,ha,b,hb,hr⟩:=h
  have qa:=fun w:World=>run_float_arith (P:=Tryz.prog) w .add 29 .f64 4607182418800017408 e0 a ha
  have qb:=fun w:World=>run_float_arith (P:=Tryz.prog) w .quo 29 .f64 4611686018427387904 a b hb
  have qr:=fun w:World=>run_float_arith (P:=Tryz.prog) w .sub 29 .f64 4607182418800017408 b r hr
  obtain ⟨hg,-,-,-,-⟩:=zAw hc
  clear ha hb hr hc
  go_enter Tryz.func145,Tryz.ntmps145
  go_wp2_with (first | (go_at_call 71; refine (zFM g l _ hl).mono ?_; rintro e w' ⟨rfl,rfl⟩) | (go_at_call 83; refine (zDH l e0 _ he0).mono ?_; rintro e w' ⟨rfl,rfl⟩))
  go_ret
  exact ⟨rfl,rfl⟩
def zD2 (g off mult:Nat) (i:Int):Option Nat :=
  (zCZ off mult i).bind fun l=>(zEL g).bind fun a=>(fadd 4607182418800017408 a).bind fun b=>fmul l b
set_option maxRecDepth 100000 in
set_option maxHeartbeats 1000000 in
theorem zJJ (m g off mult mn mx:Nat) (i:Int) (r:Nat) (w:World) (hc:Map5 144 w m g off mult mn mx) (h:zD2 g off mult i=some r) :
    Calls Tryz.prog 146 #[.pointer (some ⟨m,0,none⟩),.int .i64 i] w fun e w'=>zDz (.float .f64 r) w e w':=by
  unfold zD2 at h
  simp only [Option.bind_eq_some_iff] at h
  obtain ⟨l,hl,a,ha,b,hb,hr⟩:=h
  have qb:=fun w:World=>run_float_arith (P:=Tryz.prog) w .add 29 .f64 4607182418800017408 a b hb
  have qr:=fun w:World=>run_float_arith (P:=Tryz.prog) w .mul 29 .f64 l b r hr
  have HL:=zGG m g off mult mn mx i l w hc hl
  have HA:=fun k=>zIY m g off mult mn mx a (w.drewN k) hc ha
  clear hb hr hl ha hc
  go_enter Tryz.func146,Tryz.ntmps146
  go_wp2_with (first | (go_at_call 142; refine HL.mono ?_; rintro e w' ⟨rfl,k,rfl⟩) | (go_at_call 145; refine (HA _).mono ?_; rintro e w' ⟨rfl,rfl⟩))
  go_ret
  exact ⟨rfl,_,rfl⟩
set_option maxRecDepth 100000 in
theorem zJk (m g off mult mn mx:Nat) (w:World) (hc:Map5 144 w m g off mult mn mx) :
    Calls Tryz.prog 144 #[.pointer (some ⟨m,0,none⟩)] w fun e w'=>e = .returned (.float .f64 mn)∧w=w':=by
  obtain ⟨-,-,-,hg,-⟩:=zAw hc
  clear hc
  go_enter Tryz.func144,Tryz.ntmps144
  go_wp2
  go_ret
  exact ⟨rfl,rfl⟩
set_option maxRecDepth 100000 in
theorem zKn (m g off mult mn mx:Nat) (w:World) (hc:Map5 144 w m g off mult mn mx) :
    Calls Tryz.prog 143 #[.pointer (some ⟨m,0,none⟩)] w fun e w'=>e = .returned (.float .f64 mx)∧w=w':=by
  obtain ⟨-,-,-,-,hg⟩:=zAw hc
  clear hc
  go_enter Tryz.func143,Tryz.ntmps143
  go_wp2
  go_ret
  exact ⟨rfl,rfl⟩
def zCx (off mult v:Nat):Option Int :=
  (zEr v).bind fun l=>(fmul l mult).bind fun a=>(fadd a off).bind fun x=>zDw x
set_option maxRecDepth 100000 in
set_option maxHeartbeats 1000000 in
theorem zQi (m g off mult mn mx v:Nat) (i:Int) (w:World) (hc:Map5 145 w m g off mult mn mx) (h:zCx off mult v=some i) :
    Calls Tryz.prog 156 #[.pointer (some ⟨m,0,none⟩),.float .f64 v] w fun e w'=>zDz (.int .i64 i) w e w':=by
  unfold zCx at h
  simp only [Option.bind_eq_some_iff] at h
  obtain ⟨l,hl,a,ha,x,hx,hi⟩:=h
  have qa:=fun w:World=>run_float_arith (P:=Tryz.prog) w .mul 29 .f64 l mult a ha
  have qx:=fun w:World=>run_float_arith (P:=Tryz.prog) w .add 29 .f64 a off x hx
  unfold zDw at hi
  obtain ⟨n,hn,he⟩:=Option.map_eq_some_iff.1 hi
  have qn:=fun w=>run_convert_float_int (P:=Tryz.prog) w 29 3 .f64 .i64 x n (by simp [Tryz.underlying29]) Tryz.underlying3 hn
  obtain ⟨hg,ho,hm,-,-⟩:=zAw hc
  clear ha hx hi hn hc
  cases hs:fge x 0
  · have hs':(FloatKind.f64.format.order x 0 == some .gt||FloatKind.f64.format.order x 0 == some .eq)=false:=hs
    rw [hs] at he
    have he':wrap64 (n - 1)=i:=he
    clear he hs
    go_enter Tryz.func156,Tryz.ntmps156
    go_wp2_with fail
    go_quiet (first | (go_at_call 162; refine zAl (zIG v l _ _ hl)))
    go_wp2
    go_ret
    exact ⟨by rw [← he']; rfl,_,rfl⟩
  · have hs':(FloatKind.f64.format.order x 0 == some .gt||FloatKind.f64.format.order x 0 == some .eq)=true:=hs
    rw [hs] at he
    have he':n=i:=he
    clear he hs
    go_enter Tryz.func156,Tryz.ntmps156
    go_wp2_with fail
    go_quiet (first | (go_at_call 162; refine zAl (zIG v l _ _ hl)))
    go_wp2
    go_ret
    exact ⟨by rw [← he']; rfl,_,rfl⟩
def zCa (off mult:Nat) (i:Int):Option Nat :=
  (fsub (floatOfInt .f64 i) off).bind fun d=>(fdiv d mult).bind fun x=>zHO x
set_option maxRecDepth 100000 in
set_option maxHeartbeats 1000000 in
theorem zGH (m g off mult mn mx:Nat) (i:Int) (r:Nat) (w:World) (hc:Map5 145 w m g off mult mn mx) (h:zCa off mult i=some r) :
    Calls Tryz.prog 157 #[.pointer (some ⟨m,0,none⟩),.int .i64 i] w fun e w'=>zDz (.float .f64 r) w e w':=by
  unfold zCa at h
  simp only [Option.bind_eq_some_iff] at h
  obtain ⟨d,hd,x,hx,hr⟩:=h
  obtain ⟨k,hk⟩:∃ k,floatOfInt .f64 i=k:=⟨_,rfl⟩
  rw [hk] at hd
  have qd:=fun w:World=>run_float_arith (P:=Tryz.prog) w .sub 29 .f64 k off d hd
  have qx:=fun w:World=>run_float_arith (P:=Tryz.prog) w .quo 29 .f64 d mult x hx
  obtain ⟨hg,ho,hm,-,-⟩:=zAw hc
  clear hd hx hc
  go_enter Tryz.func157,Tryz.ntmps157
  go_wp2_with fail
  go_quiet (first | (go_at_call 163; refine zAl (zQe x r _ _ hr)))
  go_wp2
  go_ret
  exact ⟨rfl,_,rfl⟩
def zEM (g:Nat):Option Nat :=
  (zIp g).bind fun l=>(fmul 4604480259023595110 l).bind fun q=>(expF q).bind fun e0=>(fadd 4607182418800017408 e0).bind fun a=>(fdiv 4611686018427387904 a).bind fun b=>fsub 4607182418800017408 b
set_option maxRecDepth 100000 in
set_option maxHeartbeats 1000000 in
theorem zIZ (m g off mult mn mx:Nat) (r:Nat) (w:World) (hc:Map5 145 w m g off mult mn mx) (h:zEM g=some r) :
    Calls Tryz.prog 160 #[.pointer (some ⟨m,0,none⟩)] w fun e w'=>e = .returned (.float .f64 r)∧w=w':=by
  unfold zEM at h
  simp only [Option.bind_eq_some_iff] at h
  obtain ⟨l,hl,q,hq,e0,he0,a,ha,b,hb,hr⟩:=h
  have qq:=fun w:World=>run_float_arith (P:=Tryz.prog) w .mul 29 .f64 4604480259023595110 l q hq
  have qa:=fun w:World=>run_float_arith (P:=Tryz.prog) w .add 29 .f64 4607182418800017408 e0 a ha
  have qb:=fun w:World=>run_float_arith (P:=Tryz.prog) w .quo 29 .f64 4611686018427387904 a b hb
  have qr:=fun w:World=>run_float_arith (P:=Tryz.prog) w .sub 29 .f64 4607182418800017408 b r hr
  obtain ⟨hg,-,-,-,-⟩:=zAw hc
  clear ha hb hr hc hq
  go_enter Tryz.func160,Tryz.ntmps160
  go_wp2_with (first | (go_at_call 71; refine (zFM g l _ hl).mono ?_; rintro e w' ⟨rfl,rfl⟩) | (go_at_call 83; refine (zDH q e0 _ he0).mono ?_; rintro e w' ⟨rfl,rfl⟩))
  go_ret
  exact ⟨rfl,rfl⟩
def zD3 (g off mult:Nat) (i:Int):Option Nat :=
  (zCa off mult i).bind fun l=>(zEM g).bind fun a=>(fadd 4607182418800017408 a).bind fun b=>fmul l b
set_option maxRecDepth 100000 in
set_option maxHeartbeats 1000000 in
theorem zJK (m g off mult mn mx:Nat) (i:Int) (r:Nat) (w:World) (hc:Map5 145 w m g off mult mn mx) (h:zD3 g off mult i=some r) :
    Calls Tryz.prog 161 #[.pointer (some ⟨m,0,none⟩),.int .i64 i] w fun e w'=>zDz (.float .f64 r) w e w':=by
  unfold zD3 at h
  simp only [Option.bind_eq_some_iff] at h
  obtain ⟨l,hl,a,ha,b,hb,hr⟩:=h
  have qb:=fun w:World=>run_float_arith (P:=Tryz.prog) w .add 29 .f64 4607182418800017408 a b hb
  have qr:=fun w:World=>run_float_arith (P:=Tryz.prog) w .mul 29 .f64 l b r hr
  have HL:=zGH m g off mult mn mx i l w hc hl
  have HA:=fun k=>zIZ m g off mult mn mx a (w.drewN k) hc ha
  clear hb hr hl ha hc
  go_enter Tryz.func161,Tryz.ntmps161
  go_wp2_with (first | (go_at_call 157; refine HL.mono ?_; rintro e w' ⟨rfl,k,rfl⟩) | (go_at_call 160; refine (HA _).mono ?_; rintro e w' ⟨rfl,rfl⟩))
  go_ret
  exact ⟨rfl,_,rfl⟩
set_option maxRecDepth 100000 in
theorem zJl (m g off mult mn mx:Nat) (w:World) (hc:Map5 145 w m g off mult mn mx) :
    Calls Tryz.prog 159 #[.pointer (some ⟨m,0,none⟩)] w fun e w'=>e = .returned (.float .f64 mn)∧w=w':=by
  obtain ⟨-,-,-,hg,-⟩:=zAw hc
  clear hc
  go_enter Tryz.func159,Tryz.ntmps159
  go_wp2
  go_ret
  exact ⟨rfl,rfl⟩
set_option maxRecDepth 100000 in
theorem zKo (m g off mult mn mx:Nat) (w:World) (hc:Map5 145 w m g off mult mn mx) :
    Calls Tryz.prog 158 #[.pointer (some ⟨m,0,none⟩)] w fun e w'=>e = .returned (.float .f64 mx)∧w=w':=by
  obtain ⟨-,-,-,-,hg⟩:=zAw hc
  clear hc
  go_enter Tryz.func158,Tryz.ntmps158
  go_wp2
  go_ret
  exact ⟨rfl,rfl⟩
end Go.Proofs.YtllaekopaglolaaGreat
end
