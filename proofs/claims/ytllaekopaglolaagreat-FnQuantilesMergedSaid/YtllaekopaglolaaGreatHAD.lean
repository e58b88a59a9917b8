/-
  Floats by their values: each finite float is a whole number of units of 2^-1074; what +,-,*,/ make of these numbers. Plain; fit to be computed.
-/
import Derived.Test.YtllaekopaglolaaGreatHAC
import Derived.Test.YtllaekopaglolaaGreatHAA
section
namespace Go.Proofs.YtllaekopaglolaaGreat
open Ieee
set_option exponentiation.threshold 5000
def rhe (N G:Nat):Nat:=(2*N+(G - 1)+N / G % 2) / (2*G)
theorem zFA {N G Q r:Nat} (h:N=Q*G+r) (hr:r<G):rhe N G=if 2*r<G∨(2*r=G∧Q % 2=0) then Q else Q+1:=by
  have hq:N / G=Q:=by
    refine Nat.div_eq_of_lt_le (by omega) ?_
    rw [Nat.add_mul,Nat.one_mul]; omega
  unfold rhe
  rw [hq]
  have e1:Q*(2*G)=2*(Q*G):=by ac_rfl
  have e2:(Q+1)*(2*G)=2*(Q*G)+2*G:=by rw [Nat.add_mul,Nat.one_mul,e1]
  have e3:(Q+1+1)*(2*G)=2*(Q*G)+4*G:=by rw [Nat.add_mul,Nat.one_mul,e2]; omega
  have hm:=Nat.mod_lt Q (show 0<2 by omega)
  split
  · refine Nat.div_eq_of_lt_le ?_ ?_ <;> omega
  · refine Nat.div_eq_of_lt_le ?_ ?_ <;> omega
theorem zD8 (N G:Nat) (hG:0<G):∃ Q r,N=Q*G+r∧r<G∧rhe N G=if 2*r<G∨(2*r=G∧Q % 2=0) then Q else Q+1:=by
  have h1:N=N / G*G+N % G:=by rw [Nat.mul_comm]; exact (Nat.div_add_mod N G).symm
  exact ⟨N / G,N % G,h1,Nat.mod_lt _ hG,zFA h1 (Nat.mod_lt _ hG)⟩
theorem zCp (N G c:Nat) (hG:0<G) (hc:0<c):rhe (c*N) (c*G)=rhe N G:=by
  obtain ⟨Q,r,h,hr,e⟩:=zD8 N G hG
  have h':c*N=Q*(c*G)+c*r:=by rw [h,Nat.mul_add]; ac_rfl
  have hr':c*r<c*G:=Nat.mul_lt_mul_of_pos_left hr hc
  rw [zFA h' hr',e]
  have e1:(2*(c*r)<c*G)↔(2*r<G):=by
    rw [show 2*(c*r)=c*(2*r) from by ac_rfl]
    exact ⟨fun h=>Nat.lt_of_mul_lt_mul_left h,fun h=>Nat.mul_lt_mul_of_pos_left h hc⟩
  have e2:(2*(c*r)=c*G)↔(2*r=G):=by
    rw [show 2*(c*r)=c*(2*r) from by ac_rfl]
    exact ⟨fun h=>Nat.eq_of_mul_eq_mul_left hc h,fun h=>by rw [h]⟩
  simp only [e1,e2]
theorem zEP {N N':Nat} (G:Nat) (hG:0<G) (h:N≤N'):rhe N G≤rhe N' G:=by
  obtain ⟨Q,r,h1,h2,e⟩:=zD8 N G hG
  obtain ⟨Q',r',h1',h2',e'⟩:=zD8 N' G hG
  rw [e,e']
  have hQ:Q≤Q':=by
    refine Nat.le_of_not_lt fun hl=>?_
    have:(Q'+1)*G≤Q*G:=Nat.mul_le_mul_right G hl
    rw [Nat.add_mul,Nat.one_mul] at this
    omega
  rcases Nat.lt_or_eq_of_le hQ with hl | hl
  · split <;> split <;> omega
  · subst hl
    have:r≤r':=by omega
    split <;> split <;> omega
theorem zEO (N D G:Nat) (hD:0<D) (hG:0<G) (h2:G % 2=0):rhe (2*(N / D)+if N % D=0 then 0 else 1) (2*G)=rhe N (D*G):=by
  obtain ⟨w,hw⟩:∃ w,w=N % D:=⟨_,rfl⟩
  have hwD:w<D:=by rw [hw]; exact Nat.mod_lt _ hD
  have hN:N=D*(N / D)+w:=by rw [hw]; exact (Nat.div_add_mod N D).symm
  rw [← hw]
  generalize N / D=u at hN
  obtain ⟨Q,r,h,hr,-⟩:=zD8 u G hG
  have h1:N=Q*(D*G)+(D*r+w):=by rw [hN,h,Nat.mul_add]; rw [show D*(Q*G)=Q*(D*G) from by ac_rfl]; omega
  have hlt:D*r+w<D*G:=by
    have:D*(r+1)≤D*G:=Nat.mul_le_mul_left D hr
    rw [Nat.mul_add,Nat.mul_one] at this
    omega
  rw [zFA h1 hlt]
  have hs:∀ σ,σ≤1→2*u+σ=Q*(2*G)+(2*r+σ)∧2*r+σ<2*G:=fun σ hσ=>by
    rw [h,show Q*(2*G)=2*(Q*G) from by ac_rfl]; omega
  by_cases h0:w=0
  · rw [if_pos h0]
    obtain ⟨a,b⟩:=hs 0 (by omega)
    rw [zFA a b]
    subst h0
    have e1:(2*(D*r+0)<D*G)↔(2*r<G):=by
      rw [show 2*(D*r+0)=D*(2*r) from by rw [Nat.add_zero]; ac_rfl]
      exact ⟨fun h=>Nat.lt_of_mul_lt_mul_left h,fun h=>Nat.mul_lt_mul_of_pos_left h hD⟩
    have e2:(2*(D*r+0)=D*G)↔(2*r=G):=by
      rw [show 2*(D*r+0)=D*(2*r) from by rw [Nat.add_zero]; ac_rfl]
      exact ⟨fun h=>Nat.eq_of_mul_eq_mul_left hD h,fun h=>by rw [h]⟩
    have e3:(2*(2*r+0)<2*G)↔(2*r<G):=by omega
    have e4:(2*(2*r+0)=2*G)↔(2*r=G):=by omega
    simp only [e1,e2,e3,e4]
  · rw [if_neg h0]
    obtain ⟨a,b⟩:=hs 1 (by omega)
    rw [zFA a b]
    by_cases hc:2*r+2≤G
    · have:D*(2*r+2)≤D*G:=Nat.mul_le_mul_left D hc
      rw [Nat.mul_add,show D*(2*r)=2*(D*r) from by ac_rfl] at this
      rw [if_pos (Or.inl (by omega)),if_pos (Or.inl (by omega))]
    · have:D*G≤D*(2*r):=Nat.mul_le_mul_left D (by omega)
      rw [show D*(2*r)=2*(D*r) from by ac_rfl] at this
      rw [if_neg (by omega),if_neg (by omega)]
theorem zS4 (neg:Bool) (n D:Nat):Toward.even.cut neg n D=rhe n (2^D):=by
  have key:∀ E,Toward.even.cut neg n D=(n / 2^E+(decide (2^E<2*(n % 2^E))||(2^E == 2*(n % 2^E)&&n / 2^E % 2 == 1)).toNat)→(n / 2^E+(decide (2^E<2*(n % 2^E))||(2^E == 2*(n % 2^E)&&n / 2^E % 2 == 1)).toNat)=rhe n (2^E):=by
    intro E _
    have h1:n=n / 2^E*2^E+n % 2^E:=by rw [Nat.mul_comm]; exact (Nat.div_add_mod n _).symm
    rw [zFA h1 (Nat.mod_lt _ (Nat.two_pow_pos E))]
    generalize n / 2^E=q at *
    generalize n % 2^E=r at *
    generalize 2^E=P at *
    have hm:=Nat.mod_lt q (show 0<2 by omega)
    split
    · rename_i h
      have hb:(decide (P<2*r)||(P == 2*r&&q % 2 == 1))=false:=by
        rw [Bool.or_eq_false_iff]
        refine ⟨by simp; omega,?_⟩
        rcases h with h | ⟨h,h'⟩
        · have:(P == 2*r)=false:=by simp; omega
          rw [this]; rfl
        · rw [h']; simp
      rw [hb]; rfl
    · rename_i h
      have hb:(decide (P<2*r)||(P == 2*r&&q % 2 == 1))=true:=by
        rw [Bool.or_eq_true_iff]
        by_cases hp:P<2*r
        · exact .inl (by simpa using hp)
        · refine .inr ?_
          rw [Bool.and_eq_true]
          exact ⟨by simp; omega,by simp; omega⟩
      rw [hb]; rfl
  by_cases hD:D≤n.log2+2
  · have e:Toward.even.cut neg n D=(n / 2^D+(decide (2^D<2*(n % 2^D))||(2^D == 2*(n % 2^D)&&n / 2^D % 2 == 1)).toNat):=by
      unfold Toward.cut
      rw [Nat.min_eq_left hD,Nat.one_shiftLeft]
    rw [e]; exact key D e
  · have hn:n<2^(n.log2+1):=Nat.lt_log2_self
    have h2:2*n<2^(n.log2+2):=by rw [show n.log2+2=(n.log2+1)+1 from rfl,Nat.pow_succ]; omega
    have h3:2^(n.log2+2)≤2^D:=Nat.pow_le_pow_right (by omega) (by omega)
    have e1:rhe n (2^D)=0:=by
      rw [zFA (Q:=0) (r:=n) (by omega) (by omega),if_pos (Or.inl (by omega))]
    rw [e1]
    unfold Toward.cut
    rw [Nat.min_eq_right (by omega),Nat.one_shiftLeft]
    have d0:n / 2^(n.log2+2)=0:=Nat.div_eq_of_lt (by omega)
    have m0:n % 2^(n.log2+2)=n:=Nat.mod_eq_of_lt (by omega)
    simp only [d0,m0]
    have b1:decide (2^(n.log2+2)<2*n)=false:=by simp; omega
    have b2:(2^(n.log2+2) == 2*n)=false:=by simp; omega
    rw [b1,b2]; rfl
def lack (t n:Nat):Nat:=Nat.add t (Nat.sub (Nat.sub (Nat.log2 n) 52) t)
theorem zDl (t n:Nat):lack t n=max (n.log2 - 52) t:=by
  show t+((n.log2 - 52) - t)=_
  omega
def rndT (t n:Nat):Nat :=
  Nat.shiftLeft (Nat.shiftRight (Nat.add (Nat.add (Nat.mul 2 n) (Nat.sub (Nat.pow 2 (lack t n)) 1)) (Nat.mod (Nat.shiftRight n (lack t n)) 2)) (Nat.succ (lack t n))) (Nat.sub (lack t n) t)
theorem zDd (t n:Nat):rndT t n=rhe n (2^lack t n)*2^(lack t n - t):=by
  show ((2*n+(2^lack t n - 1)+(n >>> lack t n) % 2) >>> (lack t n+1)) <<< (lack t n - t)=_
  rw [Nat.shiftLeft_eq,Nat.shiftRight_eq_div_pow,Nat.shiftRight_eq_div_pow]
  unfold rhe
  rw [Nat.pow_succ,Nat.mul_comm (2^lack t n) 2]
theorem zCW (t:Nat):rndT t 0=0:=by
  rw [zDd]
  have:rhe 0 (2^lack t 0)=0:=by
    rw [zFA (Q:=0) (r:=0) (by omega) (Nat.two_pow_pos _),if_pos (Or.inl (by have:=Nat.two_pow_pos (lack t 0); omega))]
  rw [this,Nat.zero_mul]
theorem zBe (K d:Nat):rhe (K*2^d) (2^d)=K:=by
  have:=Nat.two_pow_pos d
  rw [zFA (Q:=K) (r:=0) (by omega) this,if_pos (Or.inl (by omega))]
theorem zJS (n d:Nat) (h1:2^(52+d)≤n) (h2:n<2^(53+d)):4503599627370496≤rhe n (2^d)∧rhe n (2^d)≤9007199254740992:=by
  have hp:=Nat.two_pow_pos d
  have a1:=zEP (2^d) hp h1
  have a2:=zEP (2^d) hp (Nat.le_of_lt h2)
  rw [Nat.pow_add,zBe] at a1 a2
  exact ⟨a1,a2⟩
theorem zKj (neg:Bool) (mag:Nat) (place:Int) (t n:Nat) (hp:0≤place+1074+t) (hn:mag*2^(place+1074+t).toNat=n) (hlt:n.log2<2090+t) :
    ∃ m i,double.read (double.nearest neg mag place) = .number neg m i ∧ -1074≤i∧m*2^(i+1074).toNat=rndT t n:=by
  have e2:double.binade=4503599627370496:=by decide
  have e3:double.infRung=2047*4503599627370496:=by decide
  have e4:double.leastPlace = -1074:=by decide
  by_cases hm:mag=0
  · subst hm
    rw [Nat.zero_mul] at hn
    subst hn
    rw [zCW]
    obtain ⟨m,i,h1,h2,_,_,h5⟩:=zBp neg 0 0 (Nat.zero_le _) (Nat.zero_le _) (Or.inr (Eq.refl 0)) (by decide)
    refine ⟨m,i,?_,h2,by rw [h5,Nat.zero_mul]⟩
    unfold Format.nearest; rw [if_pos rfl]; simpa using h1
  obtain ⟨k,hk⟩:∃ k:Nat,k=(place+1074+t).toNat:=⟨_,rfl⟩
  have hpl:place=(k:Int) - 1074 - t:=by omega
  rw [← hk] at hn
  have hlog:n.log2=mag.log2+k:=by rw [← hn]; exact zAX mag k (Nat.pos_of_ne_zero hm)
  have hn0:n≠0:=by rw [← hn]; exact Nat.ne_of_gt (Nat.mul_pos (Nat.pos_of_ne_zero hm) (Nat.two_pow_pos k))
  have hd:lack t n=max (n.log2 - 52) t:=zDl t n
  have hrd:=zDd t n
  generalize lack t n=d at hd hrd
  have hlast:max (place+(mag.log2:Int) - (double.fractionBits:Int)) double.leastPlace=(d:Int) - 1074 - t:=by
    have:(double.fractionBits:Int)=52:=rfl
    rw [this,e4]; omega
  have hkept:Toward.even.cut neg (mag <<< (k - d)) (d - k)=rhe n (2^d):=by
    rw [zS4,Nat.shiftLeft_eq]
    rcases Nat.le_total d k with h | h
    · rw [show d - k=0 from by omega,← hn,show k=(k - d)+d from by omega,Nat.pow_add,← Nat.mul_assoc,show k - d+d - d=k - d from by omega,zBe]
      have:=zBe (mag*2^(k - d)) 0
      simpa using this
    · rw [show k - d=0 from by omega,← hn,Nat.pow_zero,Nat.mul_one]
      have h2:2^d=2^k*2^(d - k):=by rw [← Nat.pow_add]; congr 1; omega
      rw [h2,Nat.mul_comm mag,zCp _ _ _ (Nat.two_pow_pos _) (Nat.two_pow_pos k)]
  have hr:rhe n (2^d)≤9007199254740992∧(4503599627370496≤rhe n (2^d)∨d - t=0):=by
    by_cases h:n.log2 - 52≤t∧n.log2<52+d
    · have hlt2:n<2^(52+d):=(Nat.log2_lt hn0).1 h.2
      have a:=zEP (2^d) (Nat.two_pow_pos d) (Nat.le_of_lt hlt2)
      rw [Nat.pow_add,zBe] at a
      have h52:(2:Nat)^52=4503599627370496:=by decide
      rw [h52] at a
      exact ⟨by omega,.inr (by omega)⟩
    · have h1:2^(52+d)≤n:=(Nat.le_log2 hn0).1 (by omega)
      have h2:n<2^(53+d):=(Nat.log2_lt hn0).1 (by omega)
      obtain ⟨a,b⟩:=zJS n d h1 h2
      exact ⟨b,.inl a⟩
  have hA:d - t≤2038:=by omega
  have hnear:double.nearest neg mag place=double.word neg ((d - t)*4503599627370496+rhe n (2^d)):=by
    unfold Format.nearest
    rw [if_neg hm]
    simp only [hlast]
    rw [e2,e3,e4,show (place - ((d:Int) - 1074 - t)).toNat=k - d from by omega,show ((d:Int) - 1074 - t - place).toNat=d - k from by omega,show ((d:Int) - 1074 - t - -1074).toNat=d - t from by omega,hkept]
    rw [Nat.min_eq_left (by omega)]
  rw [hnear]
  obtain ⟨m,i,h1,h2,_,_,h5⟩:=zBp neg (d - t) (rhe n (2^d)) (by omega) hr.1 hr.2 (by omega)
  exact ⟨m,i,h1,h2,by rw [h5,hrd]⟩
end Go.Proofs.YtllaekopaglolaaGreat
end
/-
  Floats by their values,the operations: a sum,a difference,a product,a quotient; comparing; to and from whole numbers.
-/
section
namespace Go.Proofs.YtllaekopaglolaaGreat
open Ieee
set_option exponentiation.threshold 5000
def FV (x:Nat) (a:Int):Prop:=x<18446744073709551616∧∃ s m i,double.read x = .number s m i∧sv s m i=a
theorem zET (s:Bool) (mag:Nat) (place:Int):double.nearest s mag place<18446744073709551616:=double.write_lt (.number s mag place)
def rndI (t:Nat) (z:Int):Int :=
  match z with
  | .ofNat n=>.ofNat (rndT t n)
  | .negSucc n=>Int.negOfNat (rndT t (Nat.succ n))
theorem zEl (t:Nat) (s:Bool) (n:Nat):rndI t ((if s then -1 else 1)*(n:Int))=(if s then -1 else 1)*(rndT t n:Int):=by
  cases s
  · show rndI t (1*(n:Int))=1*(rndT t n:Int)
    rw [Int.one_mul,Int.one_mul]; rfl
  · show rndI t (-1*(n:Int)) = -1*(rndT t n:Int)
    cases n with
    | zero=>show rndI t (Int.ofNat 0)=_; show Int.ofNat (rndT t 0)=_; rw [zCW]; rfl
    | succ k =>
      have:(-1:Int)*((k+1:Nat):Int)=Int.negSucc k:=by omega
      rw [this]
      show Int.negOfNat (rndT t (k+1))=_
      rw [Int.negOfNat_eq,Int.ofNat_eq_natCast]; omega
theorem zAm (s:Bool) (m:Nat) (i:Int):sv s m i=(if s then -1 else 1)*((m*2^(i+1074).toNat:Nat):Int):=by
  unfold sv
  rw [zAn,Int.natCast_mul,Int.natCast_pow]; rfl
theorem zCg (s:Bool) (n:Nat):((if s then (-1:Int) else 1)*(n:Int)).natAbs=n:=by
  cases s <;> simp
theorem zDQ (s:Bool) (mag:Nat) (place:Int) (t:Nat) (z:Int) (hp:0≤place+1074+t) (hz:z=(if s then -1 else 1)*((mag*2^(place+1074+t).toNat:Nat):Int)) (hlt:z.natAbs.log2<2090+t) :
    FV (double.nearest s mag place) (rndI t z):=by
  have ha:z.natAbs=mag*2^(place+1074+t).toNat:=by rw [hz]; exact zCg s _
  rw [ha] at hlt
  obtain ⟨m,i,h1,h2,h3⟩:=zKj s mag place t _ hp rfl hlt
  refine ⟨zET _ _ _,s,m,i,h1,?_⟩
  rw [zAm,h3,hz,zEl]
theorem zEv {x y:Nat} {a b:Int} (hx:FV x a) (hy:FV y b) (hlt:(a+b).natAbs.log2<2090):∃ z,floatBits .add .f64 x y=some z∧FV z (rndI 0 (a+b)):=by
  obtain ⟨-,s,m,i,h1,rfl⟩:=hx
  obtain ⟨-,t,n,j,k1,rfl⟩:=hy
  obtain ⟨ns,mg,b,e,hb,hv,-⟩:=zNm s t m n i j (zAT h1).1 (zAT k1).1
  refine ⟨double.nearest ns mg b,?_,?_⟩
  · show ((double.read x).sum (double.read y)).map double.write=_
    rw [h1,k1,e]; rfl
  · rw [← hv] at hlt ⊢
    exact zDQ ns mg b 0 _ (by omega) (by rw [zAm]; simp) hlt
theorem zKc (s:Bool) (m:Nat) (i:Int):sv (!s) m i = - sv s m i:=by
  rw [zAm,zAm]; cases s <;> simp
theorem zDG {x y:Nat} {a b:Int} (hx:FV x a) (hy:FV y b) (hlt:(a - b).natAbs.log2<2090):∃ z,floatBits .sub .f64 x y=some z∧FV z (rndI 0 (a - b)):=by
  obtain ⟨-,s,m,i,h1,rfl⟩:=hx
  obtain ⟨-,t,n,j,k1,rfl⟩:=hy
  obtain ⟨ns,mg,b,e,hb,hv,-⟩:=zNm s (!t) m n i j (zAT h1).1 (zAT k1).1
  rw [zKc,← Int.sub_eq_add_neg] at hv
  refine ⟨double.nearest ns mg b,?_,?_⟩
  · show ((double.read x).sum (double.read y).opposite).map double.write=_
    rw [h1,k1]; show ((Datum.number s m i).sum (.number (!t) n j)).map double.write=_; rw [e]; rfl
  · rw [← hv] at hlt ⊢
    exact zDQ ns mg b 0 _ (by omega) (by rw [zAm]; simp) hlt
theorem zNo (s t:Bool) (m n:Nat):((if s then (-1:Int) else 1)*(m:Int))*((if t then (-1:Int) else 1)*(n:Int))=(if (s ^^ t) then -1 else 1)*((m*n:Nat):Int):=by
  cases s <;> cases t <;> simp [Int.natCast_mul,Int.mul_neg,Int.neg_mul]
theorem zCQ {x y:Nat} {a b:Int} (hx:FV x a) (hy:FV y b) (hlt:(a*b).natAbs.log2<3164):∃ z,floatBits .mul .f64 x y=some z∧FV z (rndI 1074 (a*b)):=by
  obtain ⟨-,s,m,i,h1,rfl⟩:=hx
  obtain ⟨-,t,n,j,k1,rfl⟩:=hy
  have hi:=(zAT h1).1
  have hj:=(zAT k1).1
  refine ⟨double.nearest (s ^^ t) (m*n) (i+j),?_,?_⟩
  · show ((double.read x).product (double.read y)).map double.write=_
    rw [h1,k1]; rfl
  · refine zDQ (s ^^ t) (m*n) (i+j) 1074 _ (by omega) ?_ hlt
    rw [zAm,zAm,zNo]
    congr 2
    rw [show (i+j+1074+(1074:Nat)).toNat=(i+1074).toNat+(j+1074).toNat from by omega,Nat.pow_add]
    ac_rfl
def quoN (A B:Nat):Nat:=Nat.add (Nat.mul 2 (Nat.div (Nat.shiftLeft A 1074) B)) (bif Nat.beq (Nat.mod (Nat.shiftLeft A 1074) B) 0 then 0 else 1)
theorem zKV (A B:Nat):quoN A B=2*(A*2^1074 / B)+if A*2^1074 % B=0 then 0 else 1:=by
  show 2*((A <<< 1074) / B)+(bif Nat.beq ((A <<< 1074) % B) 0 then 0 else 1)=_
  rw [Nat.shiftLeft_eq]
  congr 1
  by_cases h:A*2^1074 % B=0
  · rw [if_pos h,h]; rfl
  · rw [if_neg h]
    have:Nat.beq (A*2^1074 % B) 0=false:=by
      cases hb:Nat.beq (A*2^1074 % B) 0
      · rfl
      · exact absurd (Nat.eq_of_beq_eq_true hb) h
    rw [this]; rfl
theorem zVm (A B:Nat):∃ K,K=1074∧quoN A B=2*(A*2^K / B)+if A*2^K % B=0 then 0 else 1:=⟨1074,rfl,zKV A B⟩
theorem zCu (u σ:Nat) (hu:u≠0) (hσ:σ≤1):(2*u+σ).log2=u.log2+1:=by
  refine (Nat.log2_eq_iff (by omega)).2 ⟨?_,?_⟩
  · have:=Nat.log2_self_le hu; rw [Nat.pow_succ]; omega
  · have:u<2^(u.log2+1):=Nat.lt_log2_self; rw [Nat.pow_succ]; omega
theorem zCo (c:Prop) [Decidable c]:(if c then 0 else 1:Nat)≤1:=by split <;> omega
theorem zI3 (N D:Nat) (hD:0<D) (h:N / D≠0):2^(N / D).log2*D≤N∧N<2^((N / D).log2+1)*D:=by
  have h1:=Nat.log2_self_le h
  have h2:N / D<2^((N / D).log2+1):=Nat.lt_log2_self
  exact ⟨(Nat.le_div_iff_mul_le hD).1 h1,(Nat.div_lt_iff_lt_mul hD).1 h2⟩
theorem zFD (x y D N:Nat) (h1:2^x*D≤N) (h2:N<2^y*D):x<y:=by
  refine Nat.lt_of_not_le fun h=>?_
  have:2^y*D≤2^x*D:=Nat.mul_le_mul_right _ (Nat.pow_le_pow_right (by omega) h)
  omega
theorem zNu (s:Bool) (m n:Nat) (i j:Int) (hm:m≠0) (hn:n≠0) (hi:-1074≤i) (hj:-1074≤j) (A B:Nat) (hA:A=m*2^(i+1074).toNat) (hB:B=n*2^(j+1074).toNat)
    (hlo:60≤(quoN A B).log2) (hhi:(quoN A B).log2<2090) (more:Nat) (hmore:more=54+n.log2 - m.log2) :
    ∃ mm ii,double.read (double.nearest s (2*((m <<< more) / n)+((m <<< more) % n != 0).toNat) (i - j - more - 1)) = .number s mm ii ∧ -1074≤ii∧mm*2^(ii+1074).toNat=rndT 1 (quoN A B):=by
  have e2:double.binade=4503599627370496:=by decide
  have e3:double.infRung=2047*4503599627370496:=by decide
  have e4:double.leastPlace = -1074:=by decide
  have hn':0<n:=Nat.pos_of_ne_zero hn
  have hm':0<m:=Nat.pos_of_ne_zero hm
  have hB0:0<B:=by rw [hB]; exact Nat.mul_pos hn' (Nat.two_pow_pos _)
  obtain ⟨I,hI⟩:∃ I:Nat,I=(i+1074).toNat:=⟨_,rfl⟩
  obtain ⟨J,hJ⟩:∃ J:Nat,J=(j+1074).toNat:=⟨_,rfl⟩
  rw [← hI] at hA
  rw [← hJ] at hB
  have hst:((m <<< more) % n != 0).toNat=if (m*2^more) % n=0 then 0 else 1:=by
    rw [Nat.shiftLeft_eq]
    by_cases h:(m*2^more) % n=0
    · rw [if_pos h,h]; rfl
    · rw [if_neg h]
      have:((m*2^more) % n != 0)=true:=by simpa using h
      rw [this]; rfl
  rw [hst,Nat.shiftLeft_eq]
  obtain ⟨D,hD⟩:∃ D,D=m*2^more:=⟨_,rfl⟩
  rw [← hD]
  have hDlog:D.log2=m.log2+more:=by rw [hD]; exact zAX m more hm'
  have hD0:D≠0:=by rw [hD]; exact Nat.ne_of_gt (Nat.mul_pos hm' (Nat.two_pow_pos _))
  have hq53:2^53≤D / n:=by
    refine (Nat.le_div_iff_mul_le hn').2 ?_
    have h1:n<2^(n.log2+1):=Nat.lt_log2_self
    have h2:2^D.log2≤D:=Nat.log2_self_le hD0
    have h3:2^53*n≤2^53*2^(n.log2+1):=Nat.mul_le_mul_left _ (Nat.le_of_lt h1)
    rw [← Nat.pow_add] at h3
    have h4:2^(53+(n.log2+1))≤2^D.log2:=Nat.pow_le_pow_right (by omega) (by omega)
    omega
  have hq0:D / n≠0:=by
    have:=Nat.two_pow_pos 53
    omega
  obtain ⟨L1,hL1⟩:∃ L,L=(D / n).log2:=⟨_,rfl⟩
  have hL53:53≤L1:=by rw [hL1]; exact (Nat.le_log2 hq0).2 hq53
  obtain ⟨a1,a2⟩:=zI3 D n hn' hq0
  rw [← hL1] at a1 a2
  rw [zKV] at hlo hhi ⊢
  obtain ⟨A',hA'⟩:∃ A',A'=A*2^1074:=⟨_,rfl⟩
  rw [← hA'] at hlo hhi ⊢
  have hq2:A' / B≠0:=by
    intro h
    rw [h] at hlo
    have hs:=zCo (A' % B=0)
    generalize (if A' % B=0 then 0 else 1:Nat)=σ at hlo hs
    have:(2*0+σ).log2≤0:=by
      rcases Nat.lt_or_eq_of_le hs with h | h
      · have:σ=0:=by omega
        subst this; decide
      · subst h; decide
    omega
  rw [zCu _ _ hq2 (zCo _)] at hlo hhi
  obtain ⟨L2,hL2⟩:∃ L,L=(A' / B).log2:=⟨_,rfl⟩
  rw [← hL2] at hlo hhi
  obtain ⟨b1,b2⟩:=zI3 A' B hB0 hq2
  rw [← hL2] at b1 b2
  have hAD:A'*2^more=D*2^(I+1074):=by rw [hA',hA,hD,Nat.pow_add]; ac_rfl
  have hBn:B=n*2^J:=hB
  obtain ⟨U,hU⟩:∃ U,U=I+1074:=⟨_,rfl⟩
  rw [← hU] at hAD
  have hLL:L1+U=L2+more+J:=by
    have c1:2^(L1+U)*n≤A'*2^more:=by
      rw [hAD,Nat.pow_add,Nat.mul_right_comm]
      exact Nat.mul_le_mul_right _ a1
    have c2:A'*2^more<2^(L1+1+U)*n:=by
      rw [hAD,Nat.pow_add,Nat.mul_right_comm]
      exact Nat.mul_lt_mul_of_pos_right a2 (Nat.two_pow_pos _)
    have d0:∀ L,2^(L+more+J)*n=2^L*B*2^more:=fun L=>by
      rw [hBn,Nat.pow_add,Nat.pow_add]; ac_rfl
    have d1:2^(L2+more+J)*n≤A'*2^more:=by
      rw [d0]
      exact Nat.mul_le_mul_right _ b1
    have d2:A'*2^more<2^(L2+1+more+J)*n:=by
      rw [d0]
      exact Nat.mul_lt_mul_of_pos_right b2 (Nat.two_pow_pos _)
    have:=zFD _ _ _ _ c1 d2
    have:=zFD _ _ _ _ d1 c2
    omega
  obtain ⟨q1,hq1⟩:∃ q,q=2*(D / n)+if D % n=0 then 0 else 1:=⟨_,rfl⟩
  rw [← hq1]
  have hq1l:q1.log2=L1+1:=by rw [hq1,zCu _ _ hq0 (zCo _),hL1]
  have hq10:q1≠0:=by intro h; rw [h] at hq1l; simp at hq1l
  obtain ⟨d2,hd2⟩:∃ d:Nat,d+51=L2:=⟨L2 - 51,by omega⟩
  have hlack:lack 1 (2*(A' / B)+if A' % B=0 then 0 else 1)=d2:=by
    rw [zDl,zCu _ _ hq2 (zCo _),← hL2]; omega
  rw [zDd,hlack]
  have hd2':2^d2=2*2^(d2 - 1):=by rw [← Nat.pow_succ']; congr 1; omega
  have heven:2^(d2 - 1) % 2=0:=by rw [show d2 - 1=(d2 - 2)+1 from by omega,Nat.pow_succ]; omega
  rw [hd2',zEO A' B _ hB0 (Nat.two_pow_pos _) heven]
  have hlast:max (i - j - more - 1+(q1.log2:Int) - (double.fractionBits:Int)) double.leastPlace=((d2 - 1:Nat):Int) - 1074:=by
    have:(double.fractionBits:Int)=52:=rfl
    rw [this,e4,hq1l]; omega
  obtain ⟨e,he⟩:∃ e:Nat,(((d2 - 1:Nat):Int) - 1074 - (i - j - more - 1)).toNat=e+1:=⟨L1 - 52,by omega⟩
  have hkept:rhe q1 (2^(e+1))=rhe A' (B*2^(d2 - 1)):=by
    have hev:2^e % 2=0:=by rw [show e=(e - 1)+1 from by omega,Nat.pow_succ]; omega
    rw [Nat.pow_succ',hq1,zEO D n _ hn' (Nat.two_pow_pos _) hev]
    have c1:=zCp D (n*2^e) (2^U) (Nat.mul_pos hn' (Nat.two_pow_pos _)) (Nat.two_pow_pos _)
    have c2:=zCp A' (B*2^(d2 - 1)) (2^more) (Nat.mul_pos hB0 (Nat.two_pow_pos _)) (Nat.two_pow_pos _)
    rw [← c1,← c2]
    congr 1
    · rw [Nat.mul_comm,← hAD,Nat.mul_comm]
    · rw [hBn]
      have:2^U*2^e=2^J*2^(d2 - 1)*2^more:=by
        rw [← Nat.pow_add,← Nat.pow_add,← Nat.pow_add]; congr 1; omega
      calc 2^U*(n*2^e)=n*(2^U*2^e):=by ac_rfl
        _=n*(2^J*2^(d2 - 1)*2^more):=by rw [this]
        _=2^more*(n*2^J*2^(d2 - 1)):=by ac_rfl
  have hr:4503599627370496≤rhe A' (B*2^(d2 - 1))∧rhe A' (B*2^(d2 - 1))≤9007199254740992:=by
    rw [← hkept]
    have h1:2^(52+(e+1))≤q1:=(Nat.le_log2 hq10).1 (by omega)
    have h2:q1<2^(53+(e+1)):=(Nat.log2_lt hq10).1 (by omega)
    exact zJS q1 (e+1) h1 h2
  have hnear:double.nearest s q1 (i - j - more - 1)=double.word s ((d2 - 1)*4503599627370496+rhe A' (B*2^(d2 - 1))):=by
    unfold Format.nearest
    rw [if_neg hq10]
    simp only [hlast]
    rw [e2,e3,e4,he,show ((i - j - more - 1) - (((d2 - 1:Nat):Int) - 1074)).toNat=0 from by omega,Nat.shiftLeft_zero,zS4,hkept,show (((d2 - 1:Nat):Int) - 1074 - -1074).toNat=d2 - 1 from by omega]
    rw [Nat.min_eq_left (by omega)]
  rw [hnear]
  obtain ⟨mm,ii,h1,h2,_,_,h5⟩:=zBp s (d2 - 1) (rhe A' (B*2^(d2 - 1))) (by omega) hr.2 (.inl hr.1) (by omega)
  exact ⟨mm,ii,h1,h2,h5⟩
theorem zO5 (N D N' D' a b:Nat) (hD:0<D) (hD':0<D') (h:N*D'*2^a=N'*D*2^b) (h0:N / D≠0) (h0':N' / D'≠0) :
    (N / D).log2+a=(N' / D').log2+b∧∀ x y,x+a=y+b→rhe N (D*2^x)=rhe N' (D'*2^y):=by
  obtain ⟨a1,a2⟩:=zI3 N D hD h0
  obtain ⟨b1,b2⟩:=zI3 N' D' hD' h0'
  generalize (N / D).log2=L at *
  generalize (N' / D').log2=L' at *
  have up:∀ (u v w D D':Nat),2^u*D*D'*2^v=2^(u+v)*(D*D'):=fun u v w D D'=>by rw [Nat.pow_add]; ac_rfl
  constructor
  · have c1:2^(L+a)*(D*D')≤N*D'*2^a:=by
      rw [← up L a 0 D D']
      exact Nat.mul_le_mul_right _ (Nat.mul_le_mul_right _ a1)
    have c2:N*D'*2^a<2^(L+1+a)*(D*D'):=by
      rw [← up (L+1) a 0 D D']
      exact Nat.mul_lt_mul_of_pos_right (Nat.mul_lt_mul_of_pos_right a2 hD') (Nat.two_pow_pos _)
    have d1:2^(L'+b)*(D*D')≤N*D'*2^a:=by
      rw [h,Nat.mul_comm D D',← up L' b 0 D' D]
      exact Nat.mul_le_mul_right _ (Nat.mul_le_mul_right _ b1)
    have d2:N*D'*2^a<2^(L'+1+b)*(D*D'):=by
      rw [h,Nat.mul_comm D D',← up (L'+1) b 0 D' D]
      exact Nat.mul_lt_mul_of_pos_right (Nat.mul_lt_mul_of_pos_right b2 hD) (Nat.two_pow_pos _)
    have:=zFD _ _ _ _ c1 d2
    have:=zFD _ _ _ _ d1 c2
    omega
  · intro x y hxy
    have c1:=zCp N (D*2^x) (D'*2^a) (Nat.mul_pos hD (Nat.two_pow_pos _)) (Nat.mul_pos hD' (Nat.two_pow_pos _))
    have c2:=zCp N' (D'*2^y) (D*2^b) (Nat.mul_pos hD' (Nat.two_pow_pos _)) (Nat.mul_pos hD (Nat.two_pow_pos _))
    rw [← c1,← c2]
    congr 1
    · calc D'*2^a*N=N*D'*2^a:=by ac_rfl
        _=N'*D*2^b:=h
        _=D*2^b*N':=by ac_rfl
    · calc D'*2^a*(D*2^x)=D*D'*(2^x*2^a):=by ac_rfl
        _=D*D'*(2^y*2^b):=by rw [← Nat.pow_add,← Nat.pow_add,hxy]
        _=D*2^b*(D'*2^y):=by ac_rfl
end Go.Proofs.YtllaekopaglolaaGreat
end
/-
  Floats by their values,fit to be computed: sums,differences,products,quotients as partial functions of the values; comparing; to and from whole numbers.
-/
section
namespace Go.Proofs.YtllaekopaglolaaGreat
open Ieee
set_option exponentiation.threshold 5000
theorem zDh {x y:Nat} {a b:Int} (hx:FV x a) (hy:FV y b):FloatKind.f64.format.order x y=some (compare a b):=by
  obtain ⟨-,s,m,i,r1,rfl⟩:=hx
  obtain ⟨-,t,n,j,r2,rfl⟩:=hy
  show (double.read x).order (double.read y)=_
  rw [r1,r2]
  exact zCC s t m n i j (zAT r1).1 (zAT r2).1
theorem zBD {x y:Nat} {a b:Int} (hx:FV x a) (hy:FV y b):flt x y=decide (a<b):=by
  unfold flt
  rw [zDh hx hy]
  rcases Int.lt_trichotomy a b with h | h | h
  · rw [Int.compare_eq_lt.2 h]; simp [h]
  · rw [Int.compare_eq_eq.2 h]; simp [h]
  · rw [Int.compare_eq_gt.2 h]; simp; omega
theorem zBa {x y:Nat} {a b:Int} (hx:FV x a) (hy:FV y b):fgt x y=decide (b<a):=by
  unfold fgt
  rw [zDh hx hy]
  rcases Int.lt_trichotomy a b with h | h | h
  · rw [Int.compare_eq_lt.2 h]; simp; omega
  · rw [Int.compare_eq_eq.2 h]; simp [h]
  · rw [Int.compare_eq_gt.2 h]; simp [h]
theorem zGO {x y:Nat} {a b:Int} (hx:FV x a) (hy:FV y b):feq x y=decide (a=b):=by
  unfold feq
  rw [zDh hx hy]
  rcases Int.lt_trichotomy a b with h | h | h
  · rw [Int.compare_eq_lt.2 h]; simp; omega
  · rw [Int.compare_eq_eq.2 h]; simp [h]
  · rw [Int.compare_eq_gt.2 h]; simp; omega
theorem zGN {x y:Nat} {a b:Int} (hx:FV x a) (hy:FV y b):fle x y=decide (a≤b):=by
  unfold fle
  rw [zDh hx hy]
  rcases Int.lt_trichotomy a b with h | h | h
  · rw [Int.compare_eq_lt.2 h]; simp; omega
  · rw [Int.compare_eq_eq.2 h]; simp [h]
  · rw [Int.compare_eq_gt.2 h]; simp; omega
theorem zOX {x y:Nat} {a b:Int} (hx:FV x a) (hy:FV y b):fge x y=decide (b≤a):=by
  unfold fge
  rw [zDh hx hy]
  rcases Int.lt_trichotomy a b with h | h | h
  · rw [Int.compare_eq_lt.2 h]; simp; omega
  · rw [Int.compare_eq_eq.2 h]; simp [h]
  · rw [Int.compare_eq_gt.2 h]; simp; omega
theorem zDC {x:Nat} {a:Int} (hx:FV x a):zA7 x=true:=by
  have:=zGO hx hx
  unfold feq at this
  unfold zA7
  rw [this]; simp
end Go.Proofs.YtllaekopaglolaaGreat
end
