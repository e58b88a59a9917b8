/-
  Floats above nought,nearly: a sum,a product,a quotient is within a part of 2^53 (2^51) of the exact one. No program in sight.
-/
import Derived.Test.YtllaekopaglolaaGreatHAM
import Derived.Laws.CopyOwn
import Derived.Deep.RegionLaw
import Derived.Deep.RegionHeld3
import Derived.Deep.QuietTactic
import Derived.BigQuiet
import Derived.StillTailTactics
section
namespace Go.Proofs.YtllaekopaglolaaGreat
open Ieee
set_option exponentiation.threshold 5000
def Is (x V:Nat):Prop:=∃ m i,double.read x = .number false m i ∧ -1074≤i∧m*2^(i+1074).toNat=V
theorem Is.nf {n:Nat} (hn:n<9007199254740992):Is (nf n) (n*2^1074):=by
  obtain ⟨m,i,h1,h2,h3⟩:=zBf n hn
  refine ⟨m,i,h1,h2,?_⟩
  rw [zCS] at h3
  have:((m*2^(i+1074).toNat:Nat):Int)=((n*2^1074:Nat):Int):=by rw [h3,Int.natCast_mul,Int.natCast_pow]; rfl
  exact Int.ofNat.inj this
theorem zUw (neg:Bool) (n D:Nat) (h:D≤n.log2+2):2*(Toward.even.cut neg n D*2^D)≤2*n+2^D∧2*n≤2*(Toward.even.cut neg n D*2^D)+2^D:=by
  unfold Toward.cut
  rw [Nat.min_eq_left h,Nat.one_shiftLeft]
  have hp:=Nat.two_pow_pos D
  have hdm:=Nat.div_add_mod n (2^D)
  have hlt:=Nat.mod_lt n hp
  simp only []
  generalize n / 2^D=q at *
  generalize n % 2^D=r at *
  generalize 2^D=P at *
  have hc:(q+(decide (P<2*r)||(P == 2*r&&q % 2 == 1)).toNat)*P=q*P+(decide (P<2*r)||(P == 2*r&&q % 2 == 1)).toNat*P:=Nat.add_mul _ _ _
  rw [hc]
  have hqp:P*q=q*P:=Nat.mul_comm _ _
  cases hb:(decide (P<2*r)||(P == 2*r&&q % 2 == 1))
  · simp only [Bool.toNat_false,Nat.zero_mul,Nat.add_zero]
    have:¬ P<2*r:=by
      intro h
      rw [decide_eq_true h,Bool.true_or] at hb
      cases hb
    omega
  · simp only [Bool.toNat_true,Nat.one_mul]
    have:P≤2*r:=by
      rcases Bool.or_eq_true _ _ ▸ hb with h | h
      · have:=of_decide_eq_true h; omega
      · have:=(Bool.and_eq_true _ _ ▸ h).1
        have:=eq_of_beq this
        omega
    omega
theorem zQc (n D k:Nat) (c1:2*(k*2^D)≤2*n+2^D) (c2:2*n≤2*(k*2^D)+2^D) (q1:2^(52+D)≤n) (q2:n<2^(52+D+1)):4503599627370496≤k∧k≤9007199254740992:=by
  rw [Nat.pow_add] at q1
  rw [show 52+D+1=53+D from by omega,Nat.pow_add] at q2
  have hP:=Nat.two_pow_pos D
  revert c1 c2 q1 q2 hP
  generalize 2^D=P
  intro c1 c2 q1 q2 hP
  have r1:(2:Nat)^52=4503599627370496:=by decide
  have r2:(2:Nat)^53=9007199254740992:=by decide
  rw [r1] at q1
  rw [r2] at q2
  obtain ⟨X,hX⟩:∃ X,X=4503599627370496:=⟨_,rfl⟩
  obtain ⟨Y,hY⟩:∃ Y,Y=9007199254740992:=⟨_,rfl⟩
  rw [← hX] at q1 ⊢
  rw [← hY] at q2 ⊢
  clear hX hY r1 r2
  constructor
  · refine Nat.le_of_not_lt fun h=>?_
    have h2:(k+1)*P≤X*P:=Nat.mul_le_mul_right P h
    rw [Nat.add_mul,Nat.one_mul] at h2
    omega
  · refine Nat.le_of_not_lt fun h=>?_
    have h2:(Y+1)*P≤k*P:=Nat.mul_le_mul_right P h
    rw [Nat.add_mul,Nat.one_mul] at h2
    omega
theorem zEB (mag:Nat) (place:Int) (hp:-1074≤place) (hlo:2^60≤mag*2^(place+1074).toNat) (hhi:mag*2^(place+1074).toNat<2^2000) :
    ∃ Z,Is (double.nearest false mag place) Z∧2^53*Z≤2^53*(mag*2^(place+1074).toNat)+mag*2^(place+1074).toNat∧2^53*(mag*2^(place+1074).toNat)≤2^53*Z+mag*2^(place+1074).toNat:=by
  have e2:double.binade=4503599627370496:=by decide
  have e3:double.infRung=2047*4503599627370496:=by decide
  have e4:double.leastPlace = -1074:=by decide
  have hm:mag≠0:=by
    intro h
    rw [h,Nat.zero_mul] at hlo
    exact absurd hlo (by decide)
  obtain ⟨e,he⟩:∃ e:Nat,e=(place+1074).toNat:=⟨_,rfl⟩
  have hep:place=(e:Int) - 1074:=by omega
  rw [← he] at hlo hhi ⊢
  have hlog:(mag*2^e).log2=mag.log2+e:=zAX mag e (Nat.pos_of_ne_zero hm)
  have hV0:mag*2^e≠0:=Nat.ne_of_gt (Nat.mul_pos (Nat.pos_of_ne_zero hm) (Nat.two_pow_pos e))
  have h60:60≤mag.log2+e:=by rw [← hlog]; exact (Nat.le_log2 hV0).2 hlo
  have h2000:mag.log2+e<2000:=by rw [← hlog]; exact (Nat.log2_lt hV0).2 hhi
  obtain ⟨A,hA⟩:∃ A:Nat,A+52=mag.log2+e:=⟨mag.log2+e - 52,by omega⟩
  have hlast:max (place+(mag.log2:Int) - (double.fractionBits:Int)) double.leastPlace=(A:Int) - 1074:=by
    have:(double.fractionBits:Int)=52:=rfl
    rw [this,e4]; omega
  have hnear:double.nearest false mag place=double.word false (min (A*4503599627370496+Toward.even.cut false (mag <<< (e - A)) (A - e)) (2047*4503599627370496)):=by
    unfold Format.nearest
    rw [if_neg hm]
    simp only [hlast]
    rw [e2,e3,e4,show (place - ((A:Int) - 1074)).toNat=e - A from by omega,show ((A:Int) - 1074 - place).toNat=A - e from by omega,show ((A:Int) - 1074 - -1074).toNat=A from by omega]
  obtain ⟨n,hn⟩:∃ n,n=mag <<< (e - A):=⟨_,rfl⟩
  have hnv:n*2^e=mag*2^e*2^(e - A):=by rw [hn,Nat.shiftLeft_eq,Nat.mul_right_comm]
  have hn0:n≠0:=by rw [hn,Nat.shiftLeft_eq]; exact Nat.ne_of_gt (Nat.mul_pos (Nat.pos_of_ne_zero hm) (Nat.two_pow_pos _))
  have hnl:n.log2=mag.log2+(e - A):=by rw [hn,Nat.shiftLeft_eq,zAX mag _ (Nat.pos_of_ne_zero hm)]
  obtain ⟨c1,c2⟩:=zUw false n (A - e) (by omega)
  rw [← hn] at hnear
  obtain ⟨k,hk⟩:∃ k,k=Toward.even.cut false n (A - e):=⟨_,rfl⟩
  rw [← hk] at hnear c1 c2
  have hV:n*2^A=mag*2^e*2^(A - e):=by
    rcases Nat.le_total A e with h | h
    · rw [hn,Nat.shiftLeft_eq,show A - e=0 from by omega,Nat.pow_zero,Nat.mul_one,Nat.mul_assoc,← Nat.pow_add,show e - A+A=e from by omega]
    · rw [hn,Nat.shiftLeft_eq,show e - A=0 from by omega,Nat.pow_zero,Nat.mul_one,Nat.mul_assoc,← Nat.pow_add,show e+(A - e)=A from by omega]
  have hkn:4503599627370496≤k∧k≤9007199254740992:=by
    have q1:2^n.log2≤n:=Nat.log2_self_le hn0
    have q2:n<2^(n.log2+1):=Nat.lt_log2_self
    have q3:n.log2=52+(A - e):=by omega
    rw [q3] at q1 q2
    exact zQc n (A - e) k c1 c2 q1 q2
  have hA2:A≤1947:=by omega
  have hA':A≤2045:=by omega
  have hmin:min (A*4503599627370496+k) (2047*4503599627370496)=A*4503599627370496+k:=Nat.min_eq_left (Nat.le_trans (Nat.add_le_add (Nat.mul_le_mul_right 4503599627370496 hA2) hkn.2) (by decide))
  have hlt:A*4503599627370496+k<2047*4503599627370496:=Nat.lt_of_le_of_lt (Nat.add_le_add (Nat.mul_le_mul_right 4503599627370496 hA2) hkn.2) (by decide)
  rw [hmin] at hnear
  obtain ⟨m,i,g1,g2,_,_,g5⟩:=zBp false A k hA' hkn.2 (.inl hkn.1) hlt
  clear hmin hlt
  refine ⟨k*2^A,⟨m,i,by rw [hnear]; exact g1,g2,g5⟩,?_⟩
  clear hnear g1 g2 g5 hlast hn hnv hnl hlo hhi
  have hPA:=Nat.two_pow_pos (A - e)
  have hVk:2*(k*2^A)≤2*(mag*2^e)+2^A∧2*(mag*2^e)≤2*(k*2^A)+2^A:=by
    have h1:2*(k*2^A)*2^(A - e)≤(2*(mag*2^e)+2^A)*2^(A - e):=by
      have:=Nat.mul_le_mul_right (2^A) c1
      calc 2*(k*2^A)*2^(A - e)=2*(k*2^(A - e))*2^A:=by ac_rfl
        _≤(2*n+2^(A - e))*2^A:=this
        _=2*(n*2^A)+2^(A - e)*2^A:=by rw [Nat.add_mul,Nat.mul_assoc]
        _=(2*(mag*2^e)+2^A)*2^(A - e):=by rw [hV,Nat.add_mul]; ac_rfl
    have h2:2*(mag*2^e)*2^(A - e)≤(2*(k*2^A)+2^A)*2^(A - e):=by
      have:=Nat.mul_le_mul_right (2^A) c2
      calc 2*(mag*2^e)*2^(A - e)=2*(n*2^A):=by rw [hV]; ac_rfl
        _=2*n*2^A:=by ac_rfl
        _≤(2*(k*2^(A - e))+2^(A - e))*2^A:=this
        _=(2*(k*2^A)+2^A)*2^(A - e):=by rw [Nat.add_mul,Nat.add_mul]; ac_rfl
    exact ⟨Nat.le_of_mul_le_mul_right h1 hPA,Nat.le_of_mul_le_mul_right h2 hPA⟩
  have hbig:2^52*2^A≤mag*2^e:=by
    rw [← Nat.pow_add,show 52+A=(mag*2^e).log2 from by rw [hlog]; omega]
    exact Nat.log2_self_le hV0
  have r1:(2:Nat)^52=4503599627370496:=by decide
  have r2:(2:Nat)^53=9007199254740992:=by decide
  rw [r1] at hbig
  rw [r2]
  omega
def zEe (Z V:Nat):Prop:=2^50*Z≤2^50*V+V∧2^50*V≤2^50*Z+V
theorem zEp {Z V:Nat} (h:2^53*Z≤2^53*V+V) (k:2^53*V≤2^53*Z+V):zEe Z V:=by
  have r1:(2:Nat)^50=1125899906842624:=by decide
  have r2:(2:Nat)^53=9007199254740992:=by decide
  unfold zEe
  rw [r2] at h k
  rw [r1]
  omega
theorem zW1 {x y V W:Nat} (hx:Is x V) (hy:Is y W) (hlo:2^60≤V+W) (hhi:V+W<2^2000):∃ z Z,floatBits .add .f64 x y=some z∧Is z Z∧zEe Z (V+W):=by
  obtain ⟨m,i,h1,h2,h3⟩:=hx
  obtain ⟨n,j,k1,k2,k3⟩:=hy
  obtain ⟨ns,mg,q,hs,hq,hv,hz⟩:=zNm false false m n i j h2 k2
  rw [zCS,zCS,h3,k3] at hv
  have hns:ns=false:=by
    cases ns with
    | false=>rfl
    | true =>
      by_cases hm:mg=0
      · exact hz hm
      · exfalso
        unfold sv at hv
        rw [zAn] at hv
        have p1:(0:Int)<(mg:Int)*2^(q+1074).toNat:=Int.mul_pos (by omega) (zBN _)
        simp at hv
        omega
  subst hns
  rw [zCS] at hv
  have hv':mg*2^(q+1074).toNat=V+W:=Int.ofNat.inj (by rw [Int.ofNat_eq_natCast,hv]; simp)
  obtain ⟨Z,c1,c2,c3⟩:=zEB mg q hq (by rw [hv']; exact hlo) (by rw [hv']; exact hhi)
  rw [hv'] at c2 c3
  refine ⟨double.nearest false mg q,Z,?_,c1,zEp c2 c3⟩
  show ((double.read x).sum (double.read y)).map double.write=_
  rw [h1,k1,hs]
  rfl
theorem Is.place {x V:Nat} {m:Nat} {i:Int} (h:double.read x = .number false m i) (hv:m*2^(i+1074).toNat=V) (hlo:2^600≤V):-528<i:=by
  obtain ⟨g1,_,hm⟩:=zAT h
  by_cases hi:-528<i
  · exact hi
  · exfalso
    have hle:(i+1074).toNat≤546:=by omega
    have q1:(2:Nat)^(i+1074).toNat≤2^546:=Nat.pow_le_pow_right (by decide) hle
    have q2:m*2^(i+1074).toNat≤9007199254740991*2^546:=Nat.mul_le_mul (by omega) q1
    have q4:(9007199254740991:Nat)*2^546<2^600:=by decide +kernel
    rw [hv] at q2
    exact absurd (Nat.lt_of_le_of_lt q2 q4) (Nat.not_lt.2 hlo)
theorem zWz {x y V W:Nat} (hx:Is x V) (hy:Is y W) (hV:2^600≤V) (hW:2^600≤W) (hlo:2^1134≤V*W) (hhi:V*W<2^3000):∃ z Z U,floatBits .mul .f64 x y=some z∧Is z Z∧U*2^1074=V*W∧zEe Z U:=by
  obtain ⟨m,i,h1,h2,h3⟩:=hx
  obtain ⟨n,j,k1,k2,k3⟩:=hy
  have p1:=Is.place h1 h3 hV
  have p2:=Is.place k1 k3 hW
  have e3:(i+1074).toNat+(j+1074).toNat=(i+j+1074).toNat+1074:=by omega
  have hU:m*n*2^(i+j+1074).toNat*2^1074=V*W:=by
    rw [← h3,← k3,Nat.mul_assoc (m*n),← Nat.pow_add,← e3,Nat.pow_add]
    ac_rfl
  have hpp:=Nat.two_pow_pos 1074
  obtain ⟨U,hUU⟩:∃ U,U=m*n*2^(i+j+1074).toNat:=⟨_,rfl⟩
  have l1:2^60≤U:=by
    refine Nat.le_of_mul_le_mul_right ?_ hpp
    rw [hUU,hU,← Nat.pow_add]
    exact hlo
  have l2:U<2^2000:=by
    refine Nat.lt_of_mul_lt_mul_right (a:=2^1074) ?_
    rw [hUU,hU,← Nat.pow_add]
    exact Nat.lt_of_lt_of_le hhi (Nat.pow_le_pow_right (by decide) (by decide))
  rw [hUU] at l1 l2
  obtain ⟨Z,c1,c2,c3⟩:=zEB (m*n) (i+j) (by omega) l1 l2
  rw [← hUU] at c2 c3
  refine ⟨double.nearest false (m*n) (i+j),Z,U,?_,c1,by rw [hUU]; exact hU,zEp c2 c3⟩
  show ((double.read x).product (double.read y)).map double.write=_
  rw [h1,k1]
  rfl
theorem zRl (D n:Nat) (hn:0<n):(2*(D / n)+(D % n != 0).toNat)*n≤2*D+n∧2*D≤(2*(D / n)+(D % n != 0).toNat)*n+n:=by
  have hdm:=Nat.div_add_mod D n
  have hlt:=Nat.mod_lt D hn
  generalize D / n=q at *
  generalize D % n=r at *
  rw [Nat.add_mul,Nat.mul_assoc,Nat.mul_comm q n]
  by_cases h0:r=0
  · subst h0; simp; omega
  · have:(r != 0)=true:=by simp [h0]
    rw [this]; simp; omega
theorem zW0 {x y V W:Nat} (hx:Is x V) (hy:Is y W) (hV0:2^1000≤V) (hV1:V<2^1200) (hW0:2^1000≤W) (hW1:W<2^1200):∃ z Z U,floatBits .quo .f64 x y=some z∧Is z Z∧zEe Z U∧zEe (U*W) (V*2^1074):=by
  obtain ⟨m,i,h1,h2,h3⟩:=hx
  obtain ⟨n,j,k1,k2,k3⟩:=hy
  obtain ⟨_,_,hm53⟩:=zAT h1
  obtain ⟨_,_,hn53⟩:=zAT k1
  have lowI:∀ (m:Nat) (i:Int) (V:Nat),-1074≤i→m<9007199254740992→m*2^(i+1074).toNat=V→2^1000≤V → -128<i:=by
    intro m i V _ hm hv hlo
    refine Int.lt_of_not_ge fun hi=>?_
    have hle:(i+1074).toNat≤946:=by omega
    have q2:m*2^(i+1074).toNat≤9007199254740991*2^946:=Nat.mul_le_mul (Nat.le_of_lt_succ hm) (Nat.pow_le_pow_right (by decide) hle)
    have q4:(9007199254740991:Nat)*2^946<2^1000:=by decide +kernel
    rw [hv] at q2
    exact absurd (Nat.lt_of_le_of_lt q2 q4) (Nat.not_lt.2 hlo)
  have highI:∀ (m:Nat) (i:Int) (V:Nat),m*2^(i+1074).toNat=V→2^1000≤V→V<2^1200→0<m∧i<126:=by
    intro m i V hv hlo hhi
    have hm:0<m:=by
      rcases Nat.eq_zero_or_pos m with h | h
      · rw [h,Nat.zero_mul] at hv
        rw [← hv] at hlo
        exact absurd hlo (by decide +kernel)
      · exact h
    refine ⟨hm,Int.lt_of_not_ge fun hi=>?_⟩
    have hle:1200≤(i+1074).toNat:=by omega
    have q2:1*2^1200≤m*2^(i+1074).toNat:=Nat.mul_le_mul hm (Nat.pow_le_pow_right (by decide) hle)
    rw [hv,Nat.one_mul] at q2
    exact absurd hhi (Nat.not_lt.2 q2)
  have i1:=lowI m i V h2 hm53 h3 hV0
  have j1:=lowI n j W k2 hn53 k3 hW0
  obtain ⟨m0,i2⟩:=highI m i V h3 hV0 hV1
  obtain ⟨n0,j2⟩:=highI n j W k3 hW0 hW1
  clear lowI highI
  have lm:m.log2≤52:=by have:m.log2<53:=(Nat.log2_lt (Nat.ne_of_gt m0)).2 hm53; omega
  have ln:n.log2≤52:=by have:n.log2<53:=(Nat.log2_lt (Nat.ne_of_gt n0)).2 hn53; omega
  obtain ⟨more,hmore⟩:∃ more,more=54+n.log2 - m.log2:=⟨_,rfl⟩
  have hm1:more+m.log2=54+n.log2:=by omega
  obtain ⟨D,hD⟩:∃ D,D=m*2^more:=⟨_,rfl⟩
  obtain ⟨mag,hmag⟩:∃ mag,mag=2*(D / n)+(D % n != 0).toNat:=⟨_,rfl⟩
  obtain ⟨c1,c2⟩:=zRl D n n0
  rw [← hmag] at c1 c2
  have hDn:2^53*n≤D:=by
    have q1:2^m.log2≤m:=Nat.log2_self_le (Nat.ne_of_gt m0)
    have q2:n<2^(n.log2+1):=Nat.lt_log2_self
    have q3:2^53*n≤2^53*2^(n.log2+1):=Nat.mul_le_mul_left _ (Nat.le_of_lt q2)
    rw [← Nat.pow_add,show 53+(n.log2+1)=m.log2+more from by omega,Nat.pow_add] at q3
    rw [hD]
    exact Nat.le_trans q3 (Nat.mul_le_mul_right _ q1)
  have hDu:D<2^55*2^(n.log2):=by
    have q2:m<2^(m.log2+1):=Nat.lt_log2_self
    rw [hD,← Nat.pow_add,show 55+n.log2=m.log2+1+more from by omega,Nat.pow_add]
    exact Nat.mul_lt_mul_of_pos_right q2 (Nat.two_pow_pos _)
  have hmagu:mag≤2^57:=by
    have q1:2^n.log2≤n:=Nat.log2_self_le (Nat.ne_of_gt n0)
    have q3:D / n<2^55:=by
      refine (Nat.div_lt_iff_lt_mul n0).2 (Nat.lt_of_lt_of_le hDu ?_)
      exact Nat.mul_le_mul_left _ q1
    have q4:(D % n != 0).toNat≤1:=Bool.toNat_le _
    rw [hmag]
    have r1:(2:Nat)^55=36028797018963968:=by decide
    have r2:(2:Nat)^57=144115188075855872:=by decide
    rw [r1] at q3
    rw [r2]
    omega
  have hmagl:2^54≤mag:=by
    have q3:2^53≤D / n:=(Nat.le_div_iff_mul_le n0).2 hDn
    rw [hmag]
    have r1:(2:Nat)^53=9007199254740992:=by decide
    have r2:(2:Nat)^54=18014398509481984:=by decide
    rw [r1] at q3
    rw [r2]
    omega
  obtain ⟨place,hpl⟩:∃ place:Int,place=i - j - more - 1:=⟨_,rfl⟩
  have hp1:600≤(place+1074).toNat:=by omega
  have hp2:(place+1074).toNat≤1400:=by omega
  obtain ⟨U,hU⟩:∃ U,U=mag*2^(place+1074).toNat:=⟨_,rfl⟩
  have u1:2^60≤U:=by
    rw [hU]
    calc 2^60≤2^54*2^600:=by decide +kernel
      _≤mag*2^(place+1074).toNat:=Nat.mul_le_mul hmagl (Nat.pow_le_pow_right (by decide) hp1)
  have u2:U<2^2000:=by
    rw [hU]
    calc mag*2^(place+1074).toNat≤2^57*2^1400:=Nat.mul_le_mul hmagu (Nat.pow_le_pow_right (by decide) hp2)
      _<2^2000:=by decide +kernel
  rw [hU] at u1 u2
  obtain ⟨Z,z1,z2,z3⟩:=zEB mag place (by omega) u1 u2
  rw [← hU] at z2 z3
  refine ⟨double.nearest false mag place,Z,U,?_,z1,zEp z2 z3,?_⟩
  · show ((double.read x).quotient (double.fractionBits+2) (double.read y)).map double.write=_
    rw [h1,k1]
    unfold Datum.quotient
    dsimp only
    rw [if_neg (Nat.ne_of_gt n0)]
    show some (double.nearest false _ _)=_
    have e1:double.fractionBits+2+n.log2 - m.log2=more:=hmore.symm
    simp only [e1]
    rw [Nat.shiftLeft_eq,← hD,← hmag,← hpl]
  · obtain ⟨P,hP⟩:∃ P,P=2^((place+1074).toNat+(j+1074).toNat):=⟨_,rfl⟩
    have e1:U*W=mag*n*P:=by rw [hU,← k3,hP,Nat.pow_add]; ac_rfl
    have e2:V*2^1074=2*D*P:=by
      rw [← h3,hD,hP,Nat.mul_assoc,← Nat.pow_add,show (i+1074).toNat+1074=1+(more+((place+1074).toNat+(j+1074).toNat)) from by omega,Nat.pow_add,Nat.pow_add 2 more,Nat.pow_one]
      ac_rfl
    unfold zEe
    rw [e1,e2]
    have r1:(2:Nat)^50=1125899906842624:=by decide
    have r2:(2:Nat)^53=9007199254740992:=by decide
    rw [r2] at hDn
    rw [r1]
    clear hU hP e1 e2 hD hmag u1 u2 z1 z2 z3 h3 k3
    have f1:1125899906842624*(mag*n)≤1125899906842624*(2*D)+2*D:=by omega
    have f2:1125899906842624*(2*D)≤1125899906842624*(mag*n)+2*D:=by omega
    have g1:=Nat.mul_le_mul_right P f1
    have g2:=Nat.mul_le_mul_right P f2
    constructor
    · calc 1125899906842624*(mag*n*P)=1125899906842624*(mag*n)*P:=by ac_rfl
        _≤(1125899906842624*(2*D)+2*D)*P:=g1
        _=1125899906842624*(2*D*P)+2*D*P:=by rw [Nat.add_mul]; ac_rfl
    · calc 1125899906842624*(2*D*P)=1125899906842624*(2*D)*P:=by ac_rfl
        _≤(1125899906842624*(mag*n)+2*D)*P:=g2
        _=1125899906842624*(mag*n*P)+2*D*P:=by rw [Nat.add_mul]; ac_rfl
end Go.Proofs.YtllaekopaglolaaGreat
end
/-
  resetBins walked.
-/
section
namespace Go.Proofs.YtllaekopaglolaaGreat
open Go.RowKit
def zer (lo hi:Int) (a:Int→Nat):Int→Nat:=fun j=>if lo≤j∧j≤hi then 0 else a j
def zVB (g L cp:Nat) (a:Int→Nat) (lo hi:Int) (w wr:World) (i:Value):Prop :=
  ∃ k:Int,i = .int .i64 k∧lo≤k∧(k≤hi+1∨k=lo)∧Row wr g L cp (zer lo (k - 1) a)∧Fr (fun b=>b=g) w wr
set_option maxRecDepth 100000 in
set_option maxHeartbeats 400000 in
theorem zJT (p g L cp:Nat) (rest:List Value) (T:TypeId) (a:Int→Nat) (c m x:Value) (off fr to:Int) (w:World) (hd:DS w p rest T (.slice (some ⟨g,0,none⟩) L cp) c (.int .i64 off) m x) (hr:Row w g L cp a) (hpg:p≠g)
   (h0:off≤fr) (h1:to - off<L) (b1:-1000000≤off) (b2:off≤1000000) (b3:fr≤4000000) (b4:-4000000≤to) (b5:to≤4000000) :
    Calls Tryz.prog 191 #[.pointer (some ⟨p,0,none⟩),.int .i64 fr,.int .i64 to] w fun e w'=>e = .returned (.tuple #[])∧Row w' g L cp (zer (fr - off) (to - off) a)∧Fr (fun b=>b=g) w w':=by
  obtain ⟨-,-,d2,-,-⟩:=hd.cells
  have HD:=Lib.hid hd
  have HR:=Lib.hid hr
  clear hd hr
  go_enter Tryz.func191,Tryz.ntmps191
  go_wp2
  clear d2
  go_loopw [6] (fun i wr=>zVB g L cp a (fr - off) (to - off) w wr i) (fun i _=>(to - off+1 - intOf i).toNat)
  case atStart=>exact ⟨fr - off,rfl,Int.le_refl _,.inr rfl,HR.out.ext (fun j _=>by unfold zer; rw [if_neg (by omega)]),Fr.refl _ _⟩
  case round =>
    obtain ⟨k,rfl,hk1,hk2,hrow,hfr⟩:=hrel
    have hdw:=HD.out.fr hfr hpg
    obtain ⟨e0,-,e2,-,-⟩:=hdw.cells
    by_cases hlt:k≤to - off
    · obtain ⟨j,rfl⟩:∃ j:Nat,k=(j:Int):=⟨k.toNat,by omega⟩
      have hjL:j<L:=by omega
      have hjL':(j:Int)<(L:Int):=by omega
      have hcell:=hrow.cell j hjL
      have hfree:=hrow.free j
      have HO:=Lib.hid hrow
      have HF:=Lib.hid hfr
      clear hrow hfr hdw
      go_wp2
      go_roundw
      case rel =>
        refine ⟨(j:Int)+1,by go_num,by omega,.inl (by omega),?_,HF.out.setCell (fun _=>rfl) _⟩
        have h:=HO.out.set j 0 hjL
        rw [zAp] at h
        refine h.ext (fun i _=>?_)
        unfold zer
        by_cases hij:(i:Int)=(j:Int)
        · rw [if_pos hij,if_pos (by omega)]
        · rw [if_neg hij]
          by_cases hi:fr - off≤(i:Int)∧(i:Int)≤(j:Int) - 1
          · rw [if_pos hi,if_pos (by omega)]
          · rw [if_neg hi,if_neg (by omega)]
      case measure=>simp [intOf]; omega
    · have HO:=Lib.hid hrow
      have HF:=Lib.hid hfr
      clear hrow hfr hdw
      go_wp2
      go_end0
      refine ⟨rfl,HO.out.ext (fun i _=>?_),HF.out⟩
      unfold zer
      by_cases hi:fr - off≤(i:Int)∧(i:Int)≤k - 1
      · rw [if_pos hi,if_pos (by omega)]
      · rw [if_neg hi,if_neg (by omega)]
end Go.Proofs.YtllaekopaglolaaGreat
end
/-
  A copy within a row; shiftCounts,centerCounts walked.
-/
section
namespace Go.Proofs.YtllaekopaglolaaGreat
open Go.RowKit
def part (a:Int→Nat) (lo cnt:Nat):List Value:=(List.range cnt).map fun (j:Nat)=>Value.float .f64 (nf (a ((lo+j:Nat):Int)))
theorem zCO (a:Int→Nat) (lo cnt:Nat):(part a lo cnt).length=cnt:=by simp [part]
theorem zN2 (a:Int→Nat) (lo cnt j:Nat) (h:j<cnt):(part a lo cnt)[j]?=some (.float .f64 (nf (a ((lo+j:Nat):Int)))):=by
  unfold part; rw [List.getElem?_map,List.getElem?_range h]; rfl
theorem zUA (a:Int→Nat) (lo cnt:Nat):∀ u∈part a lo cnt,u.oneCell'=true:=by
  intro u h
  obtain ⟨j,_,rfl⟩:=List.mem_map.1 h
  rfl
def zKl (a:Int→Nat) (lo cnt d:Nat):Int→Nat:=fun j=>if (d:Int)≤j∧j<(d:Int)+cnt then a (j - d+lo) else a j
theorem Row.splice {w:World} {g L cp:Nat} {a:Int→Nat} (h:Row w g L cp a) (lo cnt d:Nat) (hd:d+cnt≤L) :
    ∃ cur,w.heap[g]?=some (.cells cur 29 (0,0))∧d+cnt≤cur.size∧Row (w.setRow g (cur.toList.take d++(part a lo cnt++cur.toList.drop (d+cnt))).toArray) g L cp (zKl a lo cnt d):=by
  obtain ⟨cur,hg,h1,h2,h3,h4⟩:=h.block
  refine ⟨cur,hg,by omega,by rw [zAc]; omega,.inr ⟨g,cp,_,rfl,Nat.zero_le _,setRow_heap w g cur _ _ _ hg,h1,h2,?_,?_⟩⟩
  · simp only [List.size_toArray,List.length_append,List.length_take,List.length_drop,Array.length_toList,zCO]; omega
  · rw [Nat.mul_one]
    apply List.ext_getElem?
    intro i
    by_cases hi:i<L
    · rw [zDE _ _ _ hi,List.getElem?_take_of_lt hi]
      have hcur:i<cur.toList.length:=by simp; omega
      have hci:cur.toList[i]?=some (.float .f64 (nf (a (i:Int)))):=by
        have:=zDE a L i hi
        rw [← h4,List.getElem?_take_of_lt hi] at this
        exact this
      show (cur.toList.take d++(part a lo cnt++cur.toList.drop (d+cnt)))[i]?=_
      unfold zKl
      by_cases c1:i<d
      · rw [List.getElem?_append_left (by simp; omega),List.getElem?_take_of_lt c1,hci,if_neg (by omega)]
      · rw [List.getElem?_append_right (by simp; omega)]
        have e1:(cur.toList.take d).length=d:=by simp; omega
        rw [e1]
        by_cases c2:i<d+cnt
        · rw [List.getElem?_append_left (by rw [zCO]; omega),zN2 _ _ _ _ (by omega),if_pos (by omega)]
          congr 4
          omega
        · rw [List.getElem?_append_right (by rw [zCO]; omega),zCO,List.getElem?_drop,show d+cnt+(i - d - cnt)=i from by omega,hci,if_neg (by omega)]
    · rw [List.getElem?_eq_none (by rw [List.length_take]; omega),List.getElem?_eq_none (by rw [zAc]; omega)]
theorem zFP (w:World) (g:Nat) (cs:Array Value):Fr (fun b=>b=g) w (w.setRow g cs) :=
  ⟨rfl,rfl,rfl,by simp [World.setRow],fun k _ hk=>setRow_other w g k cs hk⟩
section
variable {P:Program}
theorem zB6 {ops:Array Oper} {rest:List Oper} {o:Oper} {a:Act} {w:World} {Q:Exit→Act→World→Prop} (hgd:o.guard=none) (d s:Operand) (dT sT:TypeId)
    (ho:o.op = .call { callee:=.builtin .copy,args:=#[d,s],argTypes:=#[dT,sT] }) (elem:TypeId) (hu:P.underlying dT=some (.slice elem)) (hsz:(P.info? elem).map (·.size)=some 1)
    (g off dLen dCap:Nat) (ad:Addr) (sLen sCap:Nat) (hd:a.eval d = .slice (some ⟨g,off,none⟩) dLen dCap) (hs:a.eval s = .slice (some ad) sLen sCap)
    (cur:Array Value) (t:TypeId) (hg:w.heap[g]?=some (.cells cur t (0,0))) (cs:List Value) (n:Nat) (hcn:cs.length=n) (hn:n=Nat.min sLen dLen)
    (hsrc:∀ j v,cs[j]?=some v→w.cell? (ad.add j)=some v) (hfit:off+n≤cur.size) (h1:∀ v∈cs,v.oneCell'=true)
    (h:wpList P ops Q rest (a.put o.dst (goInt n)) (w.setRow g (cur.toList.take off++(cs++cur.toList.drop (off+n))).toArray)):wpList P ops Q (o :: rest) a w:=by
  subst hcn
  exact wpList_copy_own hgd d s dT sT ho elem hu hsz g off dLen dCap ad sLen sCap hd hs cur t hg cs hn hsrc hfit h1 h
theorem zDc (t e:TypeId) (ht:P.underlying t=some (.slice e)) (g n c lo hi:Nat) (h1:lo≤hi) (h2:hi≤c) (h3:lo<c) (hz:∀ w,(sizeOf e).run P w = .ok 1 w) (w:World) :
    (Instr.slice t (.slice (some ⟨g,0,none⟩) n c) (some (.int .i64 (lo:Int))) (some (.int .i64 (hi:Int))) none).run P w = .ok (.slice (some ⟨g,lo,none⟩) (hi - lo) (c - lo)) w:=by
  have hnl:¬ hi<lo:=by omega
  have hh2:(hi:Int)≤(c:Int):=by omega
  have hne:¬ c=lo:=by omega
  simp [Instr.slice,run_underlying ht,Instr.sliceBounds,go_sem,hnl,hh2,hz,hne]
theorem zB7 (t e:TypeId) (ht:P.underlying t=some (.slice e)) (g n c lo:Nat) (h1:lo≤n) (h2:lo<c) (hz:∀ w,(sizeOf e).run P w = .ok 1 w) (w:World) :
    (Instr.slice t (.slice (some ⟨g,0,none⟩) n c) (some (.int .i64 (lo:Int))) none none).run P w = .ok (.slice (some ⟨g,lo,none⟩) (n - lo) (c - lo)) w:=by
  have hh:(lo:Int)≤(n:Int):=by omega
  have hne:¬ c=lo:=by omega
  simp [Instr.slice,run_underlying ht,Instr.sliceBounds,go_sem,hh,hz,hne]
end
theorem Tryz.sizeF64 (w:World):(sizeOf 29).run Tryz.prog w = .ok 1 w:=by kernel_rfl
theorem Tryz.oneF64:(Tryz.prog.info? 29).map (·.size)=some 1:=by kernel_rfl
set_option maxRecDepth 100000 in
set_option maxHeartbeats 1000000 in
theorem zRZ (p g L cp ma xa d:Nat) (rest:List Value) (T:TypeId) (a:Int→Nat) (c:Value) (off sh:Int) (w:World)
   (hd:DS w p rest T (.slice (some ⟨g,0,none⟩) L cp) c (.int .i64 off) (.int .i64 (off+ma)) (.int .i64 (off+xa))) (hr:Row w g L cp a) (hpg:p≠g)
   (h1:ma≤xa) (h2:xa<L) (h3:sh=(d:Int) - (ma:Int)) (h4:d+(xa - ma)<L) (ha:∀ j:Int,j<(ma:Int)∨(xa:Int)<j→a j=0) (b1:-1000000≤off) (b2:off≤1000000) (b3:L≤1000000) :
    Calls Tryz.prog 190 #[.pointer (some ⟨p,0,none⟩),.int .i64 sh] w fun e w'=>e = .returned (.tuple #[]) ∧
      DS w' p rest T (.slice (some ⟨g,0,none⟩) L cp) c (.int .i64 (off - sh)) (.int .i64 (off+ma)) (.int .i64 (off+xa))∧Row w' g L cp (fun j=>a (j - sh))∧Fr (fun b=>b=p∨b=g) w w':=by
  obtain ⟨d0,-,d2,d3,d4⟩:=hd.cells
  have hcpL:=hr.le
  have i1:IntKind.i64.wrap (off+(ma:Int) - off)=(ma:Int):=by rw [IntKind.wrap_i64]; omega
  have i2:IntKind.i64.wrap (off+(xa:Int) - off)=(xa:Int):=by rw [IntKind.wrap_i64]; omega
  have HD:=Lib.hid hd
  have HR:=Lib.hid hr
  have HA:=Lib.hid ha
  have H3:=Lib.hid h3
  have j0:(d:Int) - (ma:Int)=sh:=h3.symm
  have j1:IntKind.i64.wrap ((ma:Int)+sh)=(d:Int):=by rw [IntKind.wrap_i64]; omega
  clear hd hr ha h3 j0
  go_enter Tryz.func190,Tryz.ntmps190
  go_wp2
  go_quiet (fail)
  go_wp2
  revert nq
  intro n1
  go_quiet (fail)
  go_wp2
  obtain ⟨W,hW⟩:∃ W,W=(w.drewN n1).drewN nq:=⟨_,rfl⟩
  have hdW:DS W p rest T (.slice (some ⟨g,0,none⟩) L cp) c (.int .i64 off) (.int .i64 (off+ma)) (.int .i64 (off+xa)):=by rw [hW]; exact HD.out
  have hrW:Row W g L cp a:=by rw [hW]; exact HR.out
  have HFW:Hid (Fr (fun b=>b=p∨b=g) w W):=by show Fr _ _ _; rw [hW]; exact ((Fr.refl _ w).drewN n1).drewN nq
  rw [← hW]
  clear hW d0 d2 d3 d4
  obtain ⟨d0,-,d2,d3,d4⟩:=hdW.cells
  obtain ⟨cnt,hcnt⟩:∃ cnt,cnt=xa+1 - ma:=⟨_,rfl⟩
  obtain ⟨cur,hcur,hsz,hspl⟩:=hrW.splice ma cnt d (by omega)
  have hsrc:∀ j v,(part a ma cnt)[j]?=some v→W.drew.cell? ((⟨g,ma,none⟩:Addr).add j)=some v:=by
    intro j v hj
    have hjc:j<cnt:=by
      rcases Nat.lt_or_ge j cnt with h | h
      · exact h
      · rw [List.getElem?_eq_none (by rw [zCO]; exact h)] at hj; cases hj
    rw [zN2 _ _ _ _ hjc] at hj
    have hadd:(⟨g,ma,none⟩:Addr).add j=⟨g,ma+j,none⟩:=by unfold Addr.add; split <;> simp_all
    rw [hadd,← hj]
    exact hrW.cell (ma+j) (by omega)
  have j2:IntKind.i64.wrap ((xa:Int)+1)=(xa:Int)+1:=by rw [IntKind.wrap_i64]; omega
  have hs1:=zB7 (P:=Tryz.prog) 23 29 Tryz.underlying23 g L cp d (by omega) (by omega) Tryz.sizeF64
  have hs2:∀ w,(Instr.slice 23 (.slice (some ⟨g,0,none⟩) L cp) (some (.int .i64 (ma:Int))) (some (.int .i64 ((xa:Int)+1))) none).run Tryz.prog w = .ok (.slice (some ⟨g,ma,none⟩) (xa+1 - ma) (cp - ma)) w:=zDc (P:=Tryz.prog) 23 29 Tryz.underlying23 g L cp ma (xa+1) (by omega) (by omega) (by omega) Tryz.sizeF64
  have HSRC:=Lib.hid hsrc
  have HCUR:=Lib.hid hcur
  have HSPL:=Lib.hid hspl
  have HDW:=Lib.hid hdW
  have HSZ:=Lib.hid hsz
  have hmin:cnt=Nat.min (xa+1 - ma) (L - d):=by rw [hcnt]; exact (Nat.min_eq_left (by omega)).symm
  have HMIN:=Lib.hid hmin
  have HCNT:=Lib.hid hcnt
  clear hsrc hcur hspl hdW hrW hsz hmin hcnt
  go_still_tail 16,(by kernel_rfl)
  show wpList _ _ _ _ _ W.drew
  refine zB6 (w:=W.drew) rfl _ _ 23 23 rfl 29 Tryz.underlying23 Tryz.oneF64 g d (L - d) (cp - d) ⟨g,ma,none⟩ (xa+1 - ma) (cp - ma) rfl rfl cur 29 HCUR.out (part a ma cnt) cnt (zCO _ _ _) HMIN.out HSRC.out HSZ.out (zUA _ _ _) ?_
  obtain ⟨V,hV⟩:∃ V,V=W.drew.setRow g (cur.toList.take d++(part a ma cnt++cur.toList.drop (d+cnt))).toArray:=⟨_,rfl⟩
  have hrV:Row V g L cp (zKl a ma cnt d):=by rw [hV]; exact HSPL.out
  have hfV:Fr (fun b=>b=g) W V:=by rw [hV]; exact ((Fr.refl (fun b=>b=g) W).drew).trans (zFP W.drew g _) (fun _ _ h=>h) (fun _ _ h=>h)
  have hdV:=HDW.out.fr hfV hpg
  rw [← hV]
  have HFV:=Lib.hid hfV
  have HRV:=Lib.hid hrV
  have HDV:=Lib.hid hdV
  clear hV hrV hfV d0 d2 d3 d4 hs1 hs2 HSPL HSRC HMIN HCUR HSZ HDW
  obtain ⟨d0,-,d2,d3,d4⟩:=hdV.cells
  clear hdV
  by_cases hpos:0<sh
  · have k1:IntKind.i64.wrap (off+(ma:Int)+sh)=off+(ma:Int)+sh:=by rw [IntKind.wrap_i64]; have:=H3.out; omega
    have k2:IntKind.i64.wrap (off+(ma:Int)+sh - 1)=off+(ma:Int)+sh - 1:=by rw [IntKind.wrap_i64]; have:=H3.out; omega
    have HRS:=zJT p g L cp rest T (zKl a ma cnt d) c (.int .i64 (off+ma)) (.int .i64 (off+xa)) off (off+(ma:Int)) (off+(ma:Int)+sh - 1) V.drew HDV.out HRV.out hpg (by omega) (by have:=H3.out; omega) b1 b2 (by omega) (by have:=H3.out; omega) (by have:=H3.out; omega)
    go_wp2
    go_still_tail 12,(by kernel_rfl)
    show wpList _ _ _ _ _ V.drew
    have k3:IntKind.i64.wrap (off - sh)=off - sh:=by rw [IntKind.wrap_i64]; have:=H3.out; omega
    have k4:wrap64 (off - sh)=off - sh:=by unfold wrap64; have:=H3.out; omega
    go_wp2_with (go_at_call 191; (with_reducible refine HRS.mono ?_); rintro e w5 ⟨rfl,hr5,hf5⟩; have HR5:=Lib.hid hr5; have HF5:=Lib.hid hf5; obtain ⟨-,-,s2,-,-⟩:=(HDV.out.drew.fr hf5 hpg).cells; have s2f:=(HDV.out.drew.fr hf5 hpg).free 2; clear hr5 hf5 d0 d2 d3 d4)
    go_end0
    have hd5:=(HDV.out.drew.fr HF5.out hpg).set2 (.int .i64 (off - sh))
    refine ⟨rfl,hd5,?_,?_⟩
    · have hr6:Row (w5.setCell ⟨p,2,none⟩ (.int .i64 (off - sh))) g L cp _:=HR5.out.other hpg _
      refine hr6.ext (fun j hj=>?_)
      have e3:=H3.out
      have ec:=HCNT.out
      have hz:=HA.out (j:Int)
      have hz2:=HA.out ((j:Int) - sh)
      unfold zer zKl
      by_cases c1:(d:Int)≤(j:Int)∧(j:Int)<(d:Int)+cnt
      · rw [if_neg (by omega),if_pos c1]
        congr 1
        omega
      · rw [if_neg c1]
        rw [hz2 (by omega)]
        by_cases c2:off+(ma:Int) - off≤(j:Int)∧(j:Int)≤off+(ma:Int)+sh - 1 - off
        · rw [if_pos c2]
        · rw [if_neg c2,hz (by omega)]
    · have f1:Fr (fun b=>b=p∨b=g) w V:=HFW.out.trans HFV.out (fun _ _ h=>h) (fun _ _ h=>.inr h)
      have f2:Fr (fun b=>b=p∨b=g) V.drew w5:=HF5.out.mono (fun _ _ h=>.inr h)
      exact ((f1.drew.trans f2 (fun _ _ h=>h) (fun _ _ h=>h)).setCell (fun _=>.inl rfl) _)
  · have k1:IntKind.i64.wrap (off+(xa:Int)+sh)=off+(xa:Int)+sh:=by rw [IntKind.wrap_i64]; have:=H3.out; omega
    have k2:IntKind.i64.wrap (off+(xa:Int)+sh+1)=off+(xa:Int)+sh+1:=by rw [IntKind.wrap_i64]; have:=H3.out; omega
    have HRS:=zJT p g L cp rest T (zKl a ma cnt d) c (.int .i64 (off+ma)) (.int .i64 (off+xa)) off (off+(xa:Int)+sh+1) (off+(xa:Int)) V.drew HDV.out HRV.out hpg (by have:=H3.out; omega) (by omega) b1 b2 (by have:=H3.out; omega) (by omega) (by omega)
    go_wp2
    go_still_tail 12,(by kernel_rfl)
    show wpList _ _ _ _ _ V.drew
    have k3:IntKind.i64.wrap (off - sh)=off - sh:=by rw [IntKind.wrap_i64]; have:=H3.out; omega
    have k4:wrap64 (off - sh)=off - sh:=by unfold wrap64; have:=H3.out; omega
    go_wp2_with (go_at_call 191; (with_reducible refine HRS.mono ?_); rintro e w5 ⟨rfl,hr5,hf5⟩; have HR5:=Lib.hid hr5; have HF5:=Lib.hid hf5; obtain ⟨-,-,s2,-,-⟩:=(HDV.out.drew.fr hf5 hpg).cells; have s2f:=(HDV.out.drew.fr hf5 hpg).free 2; clear hr5 hf5 d0 d2 d3 d4)
    go_end0
    have hd5:=(HDV.out.drew.fr HF5.out hpg).set2 (.int .i64 (off - sh))
    refine ⟨rfl,hd5,?_,?_⟩
    · have hr6:Row (w5.setCell ⟨p,2,none⟩ (.int .i64 (off - sh))) g L cp _:=HR5.out.other hpg _
      refine hr6.ext (fun j hj=>?_)
      have e3:=H3.out
      have ec:=HCNT.out
      have hz:=HA.out (j:Int)
      have hz2:=HA.out ((j:Int) - sh)
      unfold zer zKl
      by_cases c1:(d:Int)≤(j:Int)∧(j:Int)<(d:Int)+cnt
      · rw [if_neg (by omega),if_pos c1]
        congr 1
        omega
      · rw [if_neg c1]
        rw [hz2 (by omega)]
        by_cases c2:off+(xa:Int)+sh+1 - off≤(j:Int)∧(j:Int)≤off+(xa:Int) - off
        · rw [if_pos c2]
        · rw [if_neg c2,hz (by omega)]
    · have f1:Fr (fun b=>b=p∨b=g) w V:=HFW.out.trans HFV.out (fun _ _ h=>h) (fun _ _ h=>.inr h)
      have f2:Fr (fun b=>b=p∨b=g) V.drew w5:=HF5.out.mono (fun _ _ h=>.inr h)
      exact ((f1.drew.trans f2 (fun _ _ h=>h) (fun _ _ h=>h)).setCell (fun _=>.inl rfl) _)
end Go.Proofs.YtllaekopaglolaaGreat
end
