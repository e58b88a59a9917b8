/-
  The float operations in fractions,at floats: what they hand back,and how near it is.
-/
import Derived.Test.YtllaekopaglolaaGreatHAJ
import Derived.Test.YtllaekopaglolaaGreatHAH
import Derived.Test.YtllaekopaglolaaGreatHAE
import Derived.Test.YtllaekopaglolaaGreatHAG
import Derived.Test.YtllaekopaglolaaGreatHAC
section
namespace Go.Proofs.YtllaekopaglolaaGreat
open Ieee
set_option exponentiation.threshold 5000
def Near (r x e:Rat):Prop:=-e≤r - x∧r - x≤e
theorem zAg {n k:Nat} (h:n<2^k) (hk:0<k):n.log2<k:=by
  by_cases h0:n=0
  · subst h0; simpa using hk
  · exact (Nat.log2_lt h0).2 h
theorem zHY {x y:Nat} {a b:Int} (K:Nat) (hx:FV x a) (hy:FV y b) (hK:K≤2000) (h1:-(BB K)<qv a+qv b) (h2:qv a+qv b<BB K) :
    ∃ z,fadd x y=some z∧FV z (rndI 0 (a+b))∧Near (qv (rndI 0 (a+b))) (qv a+qv b) (BB K / 18014398509481984):=by
  rw [← zA8] at h1 h2 ⊢
  obtain ⟨z,hz,hf⟩:=zEv hx hy (Nat.lt_of_lt_of_le (zAg (zH7 h1 h2) (by omega)) (by omega))
  exact ⟨z,hz,hf,zNs h1 h2⟩
theorem zHT {x y:Nat} {a b:Int} (K:Nat) (hx:FV x a) (hy:FV y b) (hK:K≤2000) (h1:-(BB K)<qv a - qv b) (h2:qv a - qv b<BB K) :
    ∃ z,fsub x y=some z∧FV z (rndI 0 (a - b))∧Near (qv (rndI 0 (a - b))) (qv a - qv b) (BB K / 18014398509481984):=by
  rw [← zNt] at h1 h2 ⊢
  obtain ⟨z,hz,hf⟩:=zDG hx hy (Nat.lt_of_lt_of_le (zAg (zH7 h1 h2) (by omega)) (by omega))
  exact ⟨z,hz,hf,zNs h1 h2⟩
theorem zGM {x y:Nat} {a b:Int} (K:Nat) (hx:FV x a) (hy:FV y b) (hK:K≤2000) (h1:-(BB K)<qv a*qv b) (h2:qv a*qv b<BB K) :
    ∃ z,fmul x y=some z∧FV z (rndI 1074 (a*b))∧Near (qv (rndI 1074 (a*b))) (qv a*qv b) (BB K / 18014398509481984):=by
  obtain ⟨hab,he⟩:=zTx h1 h2
  obtain ⟨z,hz,hf⟩:=zCQ hx hy (Nat.lt_of_lt_of_le (zAg hab (by omega)) (by omega))
  exact ⟨z,hz,hf,he⟩
theorem zWB {x y:Nat} {s t:Bool} {A B:Nat} (hx:FV x ((if s then (-1:Int) else 1)*(A:Int))) (hy:FV y ((if t then (-1:Int) else 1)*(B:Int))) (hA:A≠0) (hB:B≠0) (h1:60≤(quoN A B).log2) (h2:(quoN A B).log2<2090) :
    ∃ z,fdiv x y=some z∧FV z ((if (s ^^ t) then (-1:Int) else 1)*(rndT 1 (quoN A B):Int)):=by
  obtain ⟨-,s1,m,i,r1,v1⟩:=hx
  obtain ⟨-,t1,n,j,r2,v2⟩:=hy
  have hi:=(zAT r1).1
  have hj:=(zAT r2).1
  rw [zAm] at v1 v2
  obtain ⟨a1,s1'⟩:=zCL v1
  obtain ⟨a2,t1'⟩:=zCL v2
  have hs:s1=s:=s1' (by rw [a1]; exact hA)
  have ht:t1=t:=t1' (by rw [a2]; exact hB)
  subst hs ht
  have hn:n≠0:=by intro h; rw [h,Nat.zero_mul] at a2; exact hB a2.symm
  have hm:m≠0:=by intro h; rw [h,Nat.zero_mul] at a1; exact hA a1.symm
  obtain ⟨mm,ii,g1,g2,g3⟩:=zNu (s1 ^^ t1) m n i j hm hn hi hj A B a1.symm a2.symm h1 h2 (54+n.log2 - m.log2) rfl
  refine ⟨_,?_,zET _ _ _,s1 ^^ t1,mm,ii,g1,?_⟩
  · show ((double.read x).quotient (double.fractionBits+2) (double.read y)).map double.write=_
    rw [r1,r2]
    show (if n=0 then if m=0 then none else some (Datum.infinity (s1 ^^ t1)) else _:Option Datum).map double.write=_
    rw [if_neg hn]
    rfl
  · rw [zAm,g3]
theorem zSm {x y:Nat} {B:Int} (hx:FV x 0) (hy:FV y B) (hB:0<B):∃ z,fdiv x y=some z∧FV z 0:=by
  obtain ⟨n,rfl⟩:=Int.eq_ofNat_of_zero_le (Int.le_of_lt hB)
  have hx':FV x (PV false 0 0):=by rw [zDr]; exact hx
  have hy':FV y (PV false n 0):=by unfold PV; simpa using hy
  have hn:n≠0:=by omega
  have h':∀ k:Bool→Nat→Nat→Option (Bool × Nat × Nat),divP false 0 0 false n 0 k=k (Bool.xor false false) 0 0:=fun k=>by
    unfold divP
    have h0:Nat.beq n 0=false:=by
      cases h:Nat.beq n 0
      · rfl
      · exact absurd (zBT h) hn
    rw [h0,cond_false,zAq,zG0.2 rfl]
    rfl
  obtain ⟨z,s',m',e',hz,hf,hk⟩:=zIN (k:=fun s m e=>some (s,m,e)) (r:=(false,0,0)) hx' hy' (by rw [h']; rfl)
  simp only [Option.some.injEq,Prod.mk.injEq] at hk
  obtain ⟨rfl,rfl,rfl⟩:=hk
  rw [zDr] at hf
  exact ⟨z,hz,hf⟩
theorem zRn (A B:Nat) (hB:0<B):∃ P,P=2^1074∧quoN A B*B≤2*(A*P)+B∧2*(A*P)≤quoN A B*B+B:=by
  refine ⟨2^1074,rfl,?_⟩
  rw [zKV]
  generalize A*2^1074=N
  have h:=Nat.div_add_mod N B
  have hlt:=Nat.mod_lt N hB
  rw [Nat.add_mul,Nat.mul_assoc,Nat.mul_comm (N / B) B]
  split
  · omega
  · rw [Nat.one_mul]; omega
theorem zH6 {a:Int} (h:0<a):0<qv a:=by
  unfold qv; exact Rat.mul_pos (by have:=Rat.intCast_lt_intCast.2 h; simpa using this) zGo
theorem zT0 (r A B P k b u:Rat) (hP:P*u=1) (hk:k*u=b / 9007199254740992) (w1:r*B*(u*u)≤(A*P+2*(k*B))*(u*u)) (w2:A*P*(u*u)≤(r*B+2*(k*B))*(u*u)) :
    r*u*(B*u) - A*u≤b / 4503599627370496*(B*u) ∧ -(b / 4503599627370496*(B*u))≤r*u*(B*u) - A*u:=by
  have e1:r*B*(u*u)=r*u*(B*u):=by grind
  have e2:(A*P+2*(k*B))*(u*u)=A*u+b / 4503599627370496*(B*u):=by grind
  have e3:A*P*(u*u)=A*u:=by grind
  have e4:(r*B+2*(k*B))*(u*u)=r*u*(B*u)+b / 4503599627370496*(B*u):=by grind
  rw [e1,e2] at w1
  rw [e3,e4] at w2
  clear e1 e2 e3 e4 hP hk
  generalize r*u*(B*u)=X at *
  generalize b / 4503599627370496*(B*u)=Y at *
  constructor <;> grind
theorem zW6 {x y:Nat} {a b:Int} (K:Nat) (hx:FV x a) (hy:FV y b) (hb:0<b) (hK:K≤1900) (hlo:a≠0→2^60*b.natAbs≤a.natAbs*2^1074) (h1:-(BB K*qv b)<qv a) (h2:qv a<BB K*qv b) :
    ∃ z c,fdiv x y=some z∧FV z c ∧ -(BB K / 4503599627370496*qv b)≤qv c*qv b - qv a∧qv c*qv b - qv a≤BB K / 4503599627370496*qv b:=by
  have hbp:=zH6 hb
  by_cases ha:a=0
  · subst ha
    obtain ⟨z,hz,hf⟩:=zSm hx hy hb
    have e0:qv 0=0:=by unfold qv; simp
    have hB:=Rat.mul_pos (zXY K) hbp
    refine ⟨z,0,hz,hf,?_,?_⟩ <;> rw [e0] <;> grind
  obtain ⟨B,rfl⟩:=Int.eq_ofNat_of_zero_le (Int.le_of_lt hb)
  have hB0:B≠0:=by omega
  obtain ⟨s,A,hA⟩:∃ (s:Bool) (A:Nat),a=(if s then (-1:Int) else 1)*(A:Int):=by
    rcases Int.le_total 0 a with h | h
    · exact ⟨false,a.natAbs,by simp; omega⟩
    · exact ⟨true,a.natAbs,by simp; omega⟩
  have hA0:A≠0:=by intro h; rw [h] at hA; simp at hA; exact ha hA
  have hna:a.natAbs=A:=by rw [hA]; exact zCg s A
  have hlo':=hlo ha
  rw [hna] at hlo'
  have hlo'':2^60*B≤A*2^1074:=hlo'
  obtain ⟨P,hP,q1,q2⟩:=zRn A B (by omega)
  rw [← hP] at hlo''
  have hup:=zGo
  have hPu:((P:Nat):Rat)*uw=1:=by rw [hP]; exact zGp 1074 rfl
  have hAB:A*P<2^(K+53)*B:=by
    have e1:BB K=((2^(K+53):Nat):Rat)*uw:=rfl
    have eB:qv ((B:Nat):Int)=(B:Rat)*uw:=by unfold qv; rw [Rat.intCast_natCast]
    have eA:qv ((A:Nat):Int)=(A:Rat)*uw:=by unfold qv; rw [Rat.intCast_natCast]
    have hAlt:qv ((A:Nat):Int)<BB K*qv ((B:Nat):Int):=by
      rw [hA] at h1 h2
      cases s
      · simpa using h2
      · have e:qv ((if true then (-1:Int) else 1)*(A:Int)) = - qv (A:Int):=by rw [← zCr]; simp
        rw [e] at h1
        grind
    rw [eA,eB,e1] at hAlt
    generalize 2^(K+53)=Q at *
    have h3:((A*P:Nat):Rat)<((Q*B:Nat):Rat):=by
      rw [Rat.natCast_mul,Rat.natCast_mul]
      refine Rat.not_le.1 fun hc=>?_
      have huu:=Rat.mul_pos hup hup
      have:=Rat.mul_le_mul_of_nonneg_right hc (by grind:(0:Rat)≤uw*uw)
      have e3:(A:Rat)*(P:Rat)*(uw*uw)=(A:Rat)*uw:=by grind
      have e4:(Q:Rat)*(B:Rat)*(uw*uw)=(Q:Rat)*uw*((B:Rat)*uw):=by grind
      rw [e3,e4] at this
      grind
    exact Rat.natCast_lt_natCast.1 h3
  have hBp:0<B:=by omega
  have c1:2^60≤quoN A B:=by
    refine Nat.le_of_mul_le_mul_right (c:=B) ?_ hBp
    omega
  have c2:quoN A B<2^(K+54+1):=by
    refine Nat.lt_of_mul_lt_mul_right (a:=B) ?_
    have e:2^(K+54+1)*B=2*(2*(2^(K+53)*B)):=by
      rw [show K+54+1=(K+53)+1+1 from by omega,Nat.pow_succ,Nat.pow_succ]
      generalize 2^(K+53)=Q
      rw [Nat.mul_right_comm,Nat.mul_right_comm Q 2 B]
      omega
    rw [e]
    have hQ:1*B≤2^(K+53)*B:=Nat.mul_le_mul_right _ (Nat.two_pow_pos _)
    generalize 2^(K+53)*B=QB at *
    generalize A*P=AP at *
    generalize quoN A B*B=qB at *
    omega
  have hq0:quoN A B≠0:=by have:=Nat.two_pow_pos 60; omega
  obtain ⟨z,hz,hf⟩:=zWB (t:=false) (by rw [← hA]; exact hx) (by simpa using hy) hA0 hB0 ((Nat.le_log2 hq0).2 c1) (Nat.lt_of_lt_of_le (zAg c2 (by omega)) (by omega))
  rw [Bool.xor_false] at hf
  have c2':quoN A B<2^(K+1+53+1):=c2
  obtain ⟨r1,r2⟩:=zD7 1 (quoN A B) (K+2) (by rw [show K+2+53=K+54+1 from by omega]; exact c2) (by omega)
  rw [Nat.pow_one] at r1 r2
  refine ⟨z,_,hz,hf,?_⟩
  clear c1 c2 hlo hlo' hlo''
  obtain ⟨r,hr⟩:∃ r,r=rndT 1 (quoN A B):=⟨_,rfl⟩
  rw [← hr] at r1 r2 ⊢
  have m1:=Nat.mul_le_mul_right B r1
  have m2:=Nat.mul_le_mul_right B r2
  have e1:2*(r*2)*B=4*(r*B):=by rw [show 2*(r*2)=4*r from by omega,Nat.mul_assoc]
  have e2:(2*quoN A B+2^(K+2))*B=2*(quoN A B*B)+4*(2^K*B):=by
    rw [Nat.add_mul,Nat.mul_assoc,show K+2=K+1+1 from rfl,Nat.pow_succ,Nat.pow_succ,show 2^K*2*2=4*2^K from by omega,Nat.mul_assoc]
  have e3:(2*(r*2)+2^(K+2))*B=4*(r*B)+4*(2^K*B):=by
    rw [Nat.add_mul,e1,show K+2=K+1+1 from rfl,Nat.pow_succ,Nat.pow_succ,show 2^K*2*2=4*2^K from by omega,Nat.mul_assoc]
  have e4:2*quoN A B*B=2*(quoN A B*B):=Nat.mul_assoc _ _ _
  rw [e1,e2] at m1
  rw [e4,e3] at m2
  have hKB:1*B≤2^K*B:=Nat.mul_le_mul_right _ (Nat.two_pow_pos _)
  have n1:r*B≤A*P+2*(2^K*B):=by
    generalize r*B=rB at *; generalize A*P=AP at *; generalize 2^K*B=KB at *; generalize quoN A B*B=qB at *; omega
  have n2:A*P≤r*B+2*(2^K*B):=by
    generalize r*B=rB at *; generalize A*P=AP at *; generalize 2^K*B=KB at *; generalize quoN A B*B=qB at *; omega
  have p1:=Rat.natCast_le_natCast.2 n1
  have p2:=Rat.natCast_le_natCast.2 n2
  have huu:(0:Rat)≤uw*uw:=by have:=Rat.mul_pos hup hup; grind
  have w1:=Rat.mul_le_mul_of_nonneg_right p1 huu
  have w2:=Rat.mul_le_mul_of_nonneg_right p2 huu
  simp only [Rat.natCast_add,Rat.natCast_mul] at w1 w2
  have hK':=zRs K
  have eB:qv ((B:Nat):Int)=(B:Rat)*uw:=by unfold qv; rw [Rat.intCast_natCast]
  have eA:qv ((A:Nat):Int)=(A:Rat)*uw:=by unfold qv; rw [Rat.intCast_natCast]
  have er:qv ((r:Nat):Int)=(r:Rat)*uw:=by unfold qv; rw [Rat.intCast_natCast]
  have sg:∀ n:Nat,qv ((if s then (-1:Int) else 1)*(n:Int))=(if s then (-1:Rat) else 1)*qv (n:Int):=fun n=>by
    cases s
    · simp
    · have:qv ((if true then (-1:Int) else 1)*(n:Int)) = - qv (n:Int):=by rw [← zCr]; simp
      rw [this]; simp; grind
  have c2:((2:Nat):Rat)=2:=rfl
  rw [c2] at w1 w2
  obtain ⟨s1,s2⟩:=zT0 (r:Rat) (A:Rat) (B:Rat) (P:Rat) ((2^K:Nat):Rat) (BB K) uw hPu hK' w1 w2
  rw [hA,sg,sg,eA,eB,er]
  generalize (r:Rat)*uw=R at *
  generalize (B:Rat)*uw=Bu at *
  generalize (A:Rat)*uw=Au at *
  generalize BB K / 4503599627370496=b at *
  clear w1 w2 p1 p2 hK' hPu eA eB er sg n1 n2 m1 m2 e1 e2 e3 e4 r1 r2
  cases s
  · simp only [Bool.false_eq_true,if_false]
    constructor <;> grind
  · simp only [if_true]
    constructor <;> grind
end Go.Proofs.YtllaekopaglolaaGreat
end
/-
  From an approximate log to an index: what comes of it; it keeps the order.
-/
section
namespace Go.Proofs.YtllaekopaglolaaGreat
open Go.RowKit
open Ieee
set_option exponentiation.threshold 5000
theorem zNI {x:Nat} {s:Bool} {N K:Nat} (hK:K=1074) (hx:FV x ((if s then (-1:Int) else 1)*(N:Int))) (hN:N / 2^K<4611686018427387904):floatToIntVal .f64 x .i64=some ((if s then -1 else 1)*((N / 2^K:Nat):Int)):=by
  obtain ⟨-,s1,m1,i1,hr,hv⟩:=hx
  rw [zAm] at hv
  obtain ⟨ha,hs⟩:=zCL hv
  have hi:=(zAT hr).1
  have cutz:∀ (b:Bool) (n d:Nat),Toward.zero.cut b n d=n / 2^d:=by
    intro b n d
    unfold Toward.cut
    by_cases h:d≤n.log2+2
    · rw [Nat.min_eq_left h,Nat.one_shiftLeft]; simp
    · rw [Nat.min_eq_right (by omega),Nat.one_shiftLeft]
      have hn:n<2^(n.log2+1):=Nat.lt_log2_self
      have h2:2^(n.log2+1)≤2^(n.log2+2):=Nat.pow_le_pow_right (by omega) (by omega)
      have h3:2^(n.log2+2)≤2^d:=Nat.pow_le_pow_right (by omega) (by omega)
      dsimp only
      rw [Nat.div_eq_of_lt (show n<2^(n.log2+2) by omega),Nat.div_eq_of_lt (show n<2^d by omega)]; simp
  have hw:(m1 <<< i1.toNat) / 2^(-i1).toNat=N / 2^K:=by
    obtain ⟨I,hI⟩:∃ I:Nat,I=(i1+1074).toNat:=⟨_,rfl⟩
    rw [← hI] at ha
    rw [← ha,Nat.shiftLeft_eq]
    rcases Int.le_total 0 i1 with h | h
    · have hx:I=i1.toNat+K:=by omega
      rw [hx,Nat.pow_add,← Nat.mul_assoc,Nat.mul_div_cancel _ (Nat.two_pow_pos K),show (-i1).toNat=0 from by omega]; simp
    · have hx:K=(-i1).toNat+I:=by omega
      rw [hx,Nat.pow_add,Nat.mul_div_mul_right _ _ (Nat.two_pow_pos I),show i1.toNat=0 from by omega]; simp
  unfold floatToIntVal
  show (match (double.read x).toInt .zero with | some n=>if IntKind.i64.min≤n∧n≤IntKind.i64.max then some n else none | none=>none)=_
  rw [hr]
  have ht:(Datum.number s1 m1 i1).toInt .zero=some (signed s1 (N / 2^K) 0):=by
    unfold Datum.toInt Datum.integral
    simp only [cutz,hw]
  rw [ht]
  have hsg:signed s1 (N / 2^K) 0=(if s then -1 else 1)*((N / 2^K:Nat):Int):=by
    rw [zAn,Int.pow_zero,Int.mul_one]
    by_cases h0:m1*2^(i1+1074).toNat=0
    · rw [h0] at ha
      rw [← ha,Nat.zero_div]; simp
    · rw [hs h0]
  rw [hsg]
  have hmin:IntKind.i64.min = -9223372036854775808:=by decide
  have hmax:IntKind.i64.max=9223372036854775807:=by decide
  dsimp only
  rw [if_pos]
  rw [hmin,hmax]
  generalize N / 2^K=q at hN
  cases s <;> simp <;> omega
def zIJ (K:Nat) (x:Int):Int:=if 0≤x then ((x.natAbs / 2^K:Nat):Int) else -((x.natAbs / 2^K:Nat):Int) - 1
theorem zNF (K:Nat) {x y:Int} (h:x≤y):zIJ K x≤zIJ K y:=by
  unfold zIJ
  split
  · rename_i hx
    rw [if_pos (by omega)]
    have:=Nat.div_le_div_right (c:=2^K) (show x.natAbs≤y.natAbs by omega)
    omega
  · split
    · generalize y.natAbs / 2^K=p
      generalize x.natAbs / 2^K=q
      omega
    · have:=Nat.div_le_div_right (c:=2^K) (show y.natAbs≤x.natAbs by omega)
      generalize y.natAbs / 2^K=p at *
      generalize x.natAbs / 2^K=q at *
      omega
theorem zQk {x:Nat} {a:Int} {K:Nat} (hK:K=1074) (hx:FV x a) (ha:a.natAbs / 2^K<4611686018427387904):zDw x=some (zIJ K a):=by
  unfold zDw zIJ
  have hg:fge x 0=decide (0≤a):=zOX hx zA0
  rcases Int.le_total 0 a with h | h
  · have e:a=(if false then (-1:Int) else 1)*(a.natAbs:Int):=by simp; omega
    rw [zNI (s:=false) (N:=a.natAbs) hK (by rw [← e]; exact hx) ha,hg,decide_eq_true h]
    simp [h]
  · by_cases h0:a=0
    · subst h0
      rw [zNI (s:=false) (N:=0) hK (by simpa using hx) ha,hg]
      simp
    · have hn:¬ 0≤a:=by omega
      have hd:decide (0≤a)=false:=decide_eq_false hn
      have e:a=(if true then (-1:Int) else 1)*(a.natAbs:Int):=by simp; omega
      have hv:=zNI (s:=true) (N:=a.natAbs) hK (by rw [← e]; exact hx) ha
      rw [hv,hg,hd,if_neg hn]
      generalize a.natAbs / 2^K=q at ha
      clear hv e hd hn hg
      have e1:(if true=true then (-1:Int) else 1)*(q:Int) = -(q:Int):=by simp
      rw [e1]
      simp only [Option.map_some,Bool.false_eq_true,if_false]
      congr 1
      unfold wrap64
      omega
def zKO (K:Nat) (c o a:Int):Int:=zIJ K (rndI 0 (rndI K (a*c)+o))
theorem zFh {K:Nat} {c o a b:Int} (hc:0≤c) (h:a≤b):zKO K c o a≤zKO K c o b:=by
  unfold zKO
  refine zNF K (zCX 0 ?_)
  have:=zCX K (Int.mul_le_mul_of_nonneg_right h hc)
  omega
theorem zJe {a:Int} {K L:Nat} (hK:K=1074) (h1:-(BB L)<qv a) (h2:qv a<BB L) (hL:1021≤L) (hL2:L≤1080):a.natAbs / 2^K<4611686018427387904:=by
  have h:=zH7 h1 h2
  have:2^(L+53)≤2^(62+K):=Nat.pow_le_pow_right (by omega) (by omega)
  have h3:a.natAbs<2^62*2^K:=by rw [← Nat.pow_add]; omega
  exact (Nat.div_lt_iff_lt_mul (Nat.two_pow_pos K)).2 h3
theorem zIa:BB 1021=1∧BB 1022=2∧BB 1023=4∧BB 1024=8∧BB 1025=16∧BB 1026=32∧BB 1027=64∧BB 1028=128∧BB 1034=8192∧BB 1035=16384∧BB 1036=32768:=by
  have h0:=zOr 1021 rfl
  have h:∀ K,BB (K+1)=2*BB K:=zJG
  have a1:=h 1021; have a2:=h 1022; have a3:=h 1023; have a4:=h 1024; have a5:=h 1025; have a6:=h 1026; have a7:=h 1027; have a8:=h 1028
  have a9:=h 1029; have a10:=h 1030; have a11:=h 1031; have a12:=h 1032; have a13:=h 1033; have a14:=h 1034; have a15:=h 1035
  simp only [Nat.reduceAdd] at a1 a2 a3 a4 a5 a6 a7 a8 a9 a10 a11 a12 a13 a14 a15
  refine ⟨h0,?_,?_,?_,?_,?_,?_,?_,?_,?_,?_⟩ <;> grind
theorem zSL {x y X Y:Rat} (h1:-X≤x) (h2:x≤X) (h3:-Y≤y) (h4:y≤Y) (_hX:0≤X) (_hY:0≤Y):-(X*Y)≤x*y∧x*y≤X*Y:=by
  have a1:0≤X - x:=by grind
  have a2:0≤X+x:=by grind
  have b1:0≤Y - y:=by grind
  have b2:0≤Y+y:=by grind
  have p1:=Rat.mul_nonneg a1 b1
  have p2:=Rat.mul_nonneg a1 b2
  have p3:=Rat.mul_nonneg a2 b1
  have p4:=Rat.mul_nonneg a2 b2
  constructor <;> grind
theorem zE3 {l mult off:Nat} {a c o:Int} {K:Nat} (hK:K=1074) (hl:FV l a) (hm:FV mult c) (ho:FV off o)
    (a1:-64≤qv a) (a2:qv a≤64) (c1:0<qv c) (c2:qv c≤128) (o1:0≤qv o) (o2:qv o≤128) :
    ((fmul l mult).bind fun a=>(fadd a off).bind fun x=>zDw x)=some (zKO K c o a):=by
  obtain ⟨b0,b1,b2,b3,b4,b5,b6,b7,b13,b14,b15⟩:=zIa
  obtain ⟨m1,m2⟩:=zSL a1 a2 (by grind:-128≤qv c) c2 (by decide) (by decide)
  obtain ⟨x,hx,hxf,n1,n2⟩:=zGM 1035 hl hm (by decide) (by rw [b14]; grind) (by rw [b14]; grind)
  rw [b14] at n1 n2
  obtain ⟨y,hy,hyf,k1,k2⟩:=zHY 1035 hxf ho (by decide) (by rw [b14]; grind) (by rw [b14]; grind)
  rw [b14] at k1 k2
  have hfl:=zQk hK hyf (zJe (L:=1036) hK (by rw [b15]; grind) (by rw [b15]; grind) (by decide) (by decide))
  rw [hx]
  show (fadd x off).bind _=_
  rw [hy]
  show zDw y=_
  rw [hfl]
  unfold zKO
  rw [hK]
end Go.Proofs.YtllaekopaglolaaGreat
end
/-
  The linearly interpolated mapping's index: it is told for all floats from 2^-24 to 2^24; greater ones have no lesser index.
-/
section
namespace Go.Proofs.YtllaekopaglolaaGreat
open Go.RowKit
open Ieee
set_option exponentiation.threshold 5000
theorem zFl (n e:Nat) (h:n<9007199254740992):rndT 0 (n*2^e)=n*2^e:=by
  by_cases h0:n=0
  · subst h0; rw [Nat.zero_mul,zCW]
  · have hl:n.log2<53:=(Nat.log2_lt h0).2 h
    rw [zDd,zDl,zAX _ _ (Nat.pos_of_ne_zero h0)]
    obtain ⟨d,hd⟩:∃ d,d=max (n.log2+e - 52) 0:=⟨_,rfl⟩
    rw [← hd]
    have e1:n*2^e=n*2^(e - d)*2^d:=by rw [Nat.mul_assoc,← Nat.pow_add,show e - d+d=e from by omega]
    rw [e1,zBe,Nat.sub_zero]
theorem zBL (K:Nat):(2:Int)^K=((2^K:Nat):Int):=by rw [Int.natCast_pow]; rfl
theorem zB1 (k:Int) (e:Nat) (h:k.natAbs<9007199254740992):rndI 0 (k*2^e)=k*2^e:=by
  rw [zBL]
  rcases Int.le_total 0 k with h0 | h0
  · obtain ⟨n,rfl⟩:=Int.eq_ofNat_of_zero_le h0
    rw [← Int.natCast_mul,zAj,zFl n e (by omega)]
  · obtain ⟨n,hn⟩:=Int.eq_ofNat_of_zero_le (show 0 ≤ -k by omega)
    have hk:k = -(n:Int):=by omega
    subst hk
    rw [Int.neg_mul,← Int.natCast_mul,zDe,zFl n e (by omega)]
theorem zGK (k:Int) (K:Nat) (hK:K=1074) (h:k.natAbs<9007199254740992):FV (floatOfInt .f64 k) (k*2^K):=by
  have e:k*2^K=(if decide (k<0) then (-1:Int) else 1)*((k.natAbs*2^((0:Int)+1074+(0:Nat)).toNat:Nat):Int):=by
    rw [show ((0:Int)+1074+(0:Nat)).toNat=K from by omega,zBL,Int.natCast_mul]
    rcases Int.lt_or_le k 0 with h0 | h0
    · rw [decide_eq_true h0,if_pos rfl,show ((k.natAbs:Nat):Int) = -k from by omega,Int.neg_mul,Int.one_mul,Int.neg_mul,Int.neg_neg]
    · rw [decide_eq_false (by omega),if_neg (by decide),show ((k.natAbs:Nat):Int)=k from by omega,Int.one_mul]
  have hlt:(k*2^K).natAbs.log2<2090+0:=by
    rw [zBL,Int.natAbs_mul,Int.natAbs_natCast]
    by_cases h0:k.natAbs=0
    · rw [h0,Nat.zero_mul]; decide
    · rw [zAX _ _ (Nat.pos_of_ne_zero h0)]
      have:k.natAbs.log2<53:=(Nat.log2_lt h0).2 h
      omega
  have:=zDQ (decide (k<0)) k.natAbs 0 0 (k*2^K) (by decide) e hlt
  rw [zB1 k K h] at this
  exact this
theorem zCI (k:Int) (K:Nat) (hK:K=1074):qv (k*2^K)=(k:Rat):=by
  unfold qv
  rw [zBL,Rat.intCast_mul,Rat.intCast_natCast]
  have:=zGp K hK
  grind
theorem zSp {x:Nat} (h1:4503599627370496≤x) (h2:x<9142307245003341824) (K:Nat) (hK:K=1074):FV (zHb (x:Int)) ((((x / 4503599627370496:Nat):Int) - 1023)*2^K):=by
  have e:zHb (x:Int)=floatOfInt .f64 (((x / 4503599627370496:Nat):Int) - 1023):=by
    unfold zHb
    have e0:=zOe (x / 4503599627370496) 4503599627370496 (by decide)
    rw [show ((4503599627370496:Nat):Int)=4503599627370496 from rfl] at e0
    rw [zI9 x (by omega),e0]
    have hq:x / 4503599627370496<2048:=by omega
    generalize x / 4503599627370496=q at hq
    have e2:wrap64 (wrap64 (q:Int) - 1023)=(q:Int) - 1023:=by unfold wrap64; omega
    rw [e2]
  rw [e]
  exact zGK _ K hK (by omega)
theorem zNn {x:Nat} (h2:x<18446744073709551616):FV (zD5 (x:Int)) (PV false (4503599627370496+x % 4503599627370496) 1022):=by
  have e:zD5 (x:Int)=x % 4503599627370496+4607182418800017408:=by
    unfold zD5
    rw [zNW x h2]
    have e1:=zIV (x % 4503599627370496) 1023 (by omega) (by decide) 4607182418800017408 (by decide)
    rw [show ((4607182418800017408:Nat):Int)=4607182418800017408 from rfl] at e1
    rw [e1]; rfl
  rw [e]
  have:=zDv (x:=x % 4503599627370496+4607182418800017408) (by omega) (by omega)
  rw [show (x % 4503599627370496+4607182418800017408) % 4503599627370496=x % 4503599627370496 from by omega,show (x % 4503599627370496+4607182418800017408) / 4503599627370496 - 1=1022 from by omega] at this
  exact this
theorem zRk (m:Nat):qv (PV false m 1022)=(m:Rat) / 4503599627370496:=by
  obtain ⟨J,hJ⟩:∃ J,J=1022:=⟨_,rfl⟩
  rw [← hJ]
  have e:PV false m J=((m*2^J:Nat):Int):=by unfold PV; simp
  rw [e]
  unfold qv
  rw [Rat.intCast_natCast,Rat.natCast_mul]
  have h:=zGp (52+J) (by omega)
  rw [Nat.pow_add,Rat.natCast_mul] at h
  have:((2^52:Nat):Rat)=4503599627370496:=by
    rw [show (2:Nat)^52=4503599627370496 from by decide]; rfl
  rw [this] at h
  grind
def linA (J x:Nat):Int:=((x:Int) - 4602678819172646912)*2^J
def linV (J x:Nat):Int:=rndI 0 (rndI 0 (linA J x) - 1*2^(52+J))
theorem zSR (J:Nat) {x y:Nat} (h:x≤y):linV J x≤linV J y:=by
  unfold linV linA
  have hp:(0:Int)≤2^J:=by rw [zBL]; exact Int.natCast_nonneg _
  have:=zCX 0 (Int.mul_le_mul_of_nonneg_right (show (x:Int) - 4602678819172646912≤(y:Int) - 4602678819172646912 by omega) hp)
  exact zCX 0 (by omega)
theorem zQZ {x:Nat} (h1:4499096027743125504≤x) (h2:x≤4715268809856909312) (J:Nat) (hJ:J=1022):∃ z,zEq x=some z∧FV z (linV J x) ∧ -64≤qv (linV J x)∧qv (linV J x)≤64:=by
  obtain ⟨b0,b1,b2,b3,b4,b5,b6,b7,b13,b14,b15⟩:=zIa
  have hE:=zSp (x:=x) (by omega) (by omega) (52+J) (by omega)
  have hS:=zNn (x:=x) (by omega)
  have qE:=zCI (((x / 4503599627370496:Nat):Int) - 1023) (52+J) (by omega)
  have qS:=zRk (4503599627370496+x % 4503599627370496)
  have e1:(((x / 4503599627370496:Nat):Int) - 1023)*2^(52+J)+PV false (4503599627370496+x % 4503599627370496) 1022=linA J x:=by
    unfold linA
    rw [← hJ]
    have e:PV false (4503599627370496+x % 4503599627370496) J=((4503599627370496+x % 4503599627370496:Nat):Int)*2^J:=by
      unfold PV; rw [zBL,Int.natCast_mul]; simp
    rw [e,Int.pow_add,show (2:Int)^52=4503599627370496 from by decide,← Int.mul_assoc,← Int.add_mul]
    congr 1
    omega
  have r1:(-24:Rat)≤((((x / 4503599627370496:Nat):Int) - 1023:Int):Rat):=by
    have:=Rat.intCast_le_intCast.2 (show (-24:Int)≤((x / 4503599627370496:Nat):Int) - 1023 by omega)
    exact this
  have r2:((((x / 4503599627370496:Nat):Int) - 1023:Int):Rat)≤24:=by
    have:=Rat.intCast_le_intCast.2 (show ((x / 4503599627370496:Nat):Int) - 1023≤(24:Int) by omega)
    exact this
  have r3:(0:Rat)≤((4503599627370496+x % 4503599627370496:Nat):Rat):=by
    have:=Rat.natCast_le_natCast.2 (show 0≤4503599627370496+x % 4503599627370496 by omega)
    exact this
  have r4:((4503599627370496+x % 4503599627370496:Nat):Rat)≤9007199254740992:=by
    have:=Rat.natCast_le_natCast.2 (show 4503599627370496+x % 4503599627370496≤9007199254740992 by omega)
    exact this
  generalize ((((x / 4503599627370496:Nat):Int) - 1023:Int):Rat)=e at *
  generalize ((4503599627370496+x % 4503599627370496:Nat):Rat)=m at *
  obtain ⟨z1,g1,f1,n1,n2⟩:=zHY 1027 hE hS (by decide) (by rw [qE,qS,b6]; grind) (by rw [qE,qS,b6]; grind)
  rw [e1] at f1 n1 n2
  rw [qE,qS,b6] at n1 n2
  have hO:=zGK 1 (52+J) (by omega) (by decide)
  have qO:=zCI 1 (52+J) (by omega)
  have ho1:floatOfInt .f64 1=4607182418800017408:=by decide +kernel
  rw [ho1] at hO
  have qO':qv (1*2^(52+J))=1:=by rw [qO]; rfl
  obtain ⟨z2,g2,f2,k1,k2⟩:=zHT 1027 f1 hO (by decide) (by rw [qO',b6]; grind) (by rw [qO',b6]; grind)
  rw [qO',b6] at k1 k2
  refine ⟨z2,?_,f2,?_,?_⟩
  · unfold zEq
    rw [g1]
    show (fsub z1 4607182418800017408).bind _=_
    rw [g2]; rfl
  · show -64≤qv (rndI 0 (rndI 0 (linA J x) - 1*2^(52+J)))
    grind
  · show qv (rndI 0 (rndI 0 (linA J x) - 1*2^(52+J)))≤64
    grind
theorem zII {off mult:Nat} {c o:Int} (hm:FV mult c) (ho:FV off o) (c1:0<qv c) (c2:qv c≤128) (o1:0≤qv o) (o2:qv o≤128) {x:Nat} (h1:4499096027743125504≤x) (h2:x≤4715268809856909312) (J:Nat) (hJ:J=1022) :
    zCw off mult x=some (zKO (52+J) c o (linV J x)):=by
  obtain ⟨z,hz,hf,a1,a2⟩:=zQZ h1 h2 J hJ
  unfold zCw
  rw [hz]
  exact zE3 (by omega) hf hm ho a1 a2 c1 c2 o1 o2
theorem zNB {off mult:Nat} {c o:Int} (hm:FV mult c) (ho:FV off o) (c1:0<qv c) (c2:qv c≤128) (o1:0≤qv o) (o2:qv o≤128) {x y:Nat} (h1:4499096027743125504≤x) (h:x≤y) (h2:y≤4715268809856909312) :
    ∃ i j,zCw off mult x=some i∧zCw off mult y=some j∧i≤j:=by
  obtain ⟨J,hJ⟩:∃ J,J=1022:=⟨_,rfl⟩
  have hc:0≤c:=by
    have e0:qv 0=0:=by unfold qv; simp
    have:=zEU (a:=0) (b:=c) (by rw [e0]; exact c1)
    omega
  exact ⟨_,_,zII hm ho c1 c2 o1 o2 h1 (by omega) J hJ,zII hm ho c1 c2 o1 o2 (by omega) h2 J hJ,zFh hc (zSR J h)⟩
end Go.Proofs.YtllaekopaglolaaGreat
end
/-
  spec.Near,where no NaN comes up.
-/
section
namespace Go.Proofs.YtllaekopaglolaaGreat
open Go.RowKit
def maxO (x y:Nat):Option Nat :=
  match FloatKind.f64.format.order x y with
  | none=>none
  | some .lt=>some y
  | some .gt=>some x
  | some .eq=>some (if (FloatKind.f64.decode x).neg then y else x)
theorem zB8 {P:Program} (w:World) (ts:Array TypeId) (t:TypeId) (x y m:Nat) (h:maxO x y=some m):(Builtin.max_ ts t #[.float .f64 x,.float .f64 y]).run P w = .ok (.float .f64 m) w:=by
  unfold maxO at h
  cases ho:FloatKind.f64.format.order x y with
  | none=>rw [ho] at h; cases h
  | some c =>
    rw [ho] at h
    cases c <;> (dsimp only at h; cases h; simp [Builtin.max_,Builtin.max2,ho])
def zDy (a b part:Nat):Option Bool :=
  (fsub a b).bind fun d=>(maxO d (negF d)).bind fun m=>(maxO b (negF b)).bind fun n=>(fmul part n).bind fun q=>(fadd q 4427486594234968593).bind fun r=>some (fle m r)
set_option maxRecDepth 100000 in
set_option maxHeartbeats 800000 in
theorem zHE (a b part:Nat) (out:Bool) (w:World) (h:zDy a b part=some out):Calls Tryz.prog 20 #[.float .f64 a,.float .f64 b,.float .f64 part] w fun e w'=>e = .returned (.bool out)∧w=w':=by
  unfold zDy at h
  simp only [Option.bind_eq_some_iff] at h
  obtain ⟨d,hd,m,hm,n,hn,q,hq,r,hr,ho⟩:=h
  have ho':=Option.some.inj ho
  have q1:=fun w:World=>run_float_arith (P:=Tryz.prog) w .sub 29 .f64 a b d hd
  have q2:=fun (w:World) ts t=>zB8 (P:=Tryz.prog) w ts t d (negF d) m hm
  have q3:=fun (w:World) ts t=>zB8 (P:=Tryz.prog) w ts t b (negF b) n hn
  have q4:=fun w:World=>run_float_arith (P:=Tryz.prog) w .mul 29 .f64 part n q hq
  have q5:=fun w:World=>run_float_arith (P:=Tryz.prog) w .add 29 .f64 q 4427486594234968593 r hr
  have q6:(FloatKind.f64.format.order m r == some .lt||FloatKind.f64.format.order m r == some .eq)=out:=ho'
  clear hd hm hn hq hr ho ho'
  go_enter Tryz.func20,Tryz.ntmps20
  go_wp2
  go_ret
  exact ⟨rfl,rfl⟩
end Go.Proofs.YtllaekopaglolaaGreat
end
