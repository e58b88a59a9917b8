/-
  From the looks to all floats: what a mapping tells of a float lies within the accuracy,by spec.Near and by its bounds.
-/
import Derived.Test.YtllaekopaglolaaGreatHAJ
import Derived.Test.YtllaekopaglolaaGreatHAK
import Derived.Test.YtllaekopaglolaaGreatHAH
import Derived.Test.YtllaekopaglolaaGreatHAC
import Derived.Test.YtllaekopaglolaaGreatHAA
import Derived.Deep.QuietTactic
import Derived.BigQuiet
section
namespace Go.Proofs.YtllaekopaglolaaGreat
open Go.RowKit
open Ieee
set_option exponentiation.threshold 5000
set_option maxRecDepth 20000
theorem zTz (Z X n G:Nat) (h1:2*X≤2*n+G) (h2:2*n≤2*X+G) (h3:G*Z≤n):X*(2*Z)≤n*(2*Z+1)∧n*(2*Z)≤X*(2*Z)+n:=by
  have a:=Nat.mul_le_mul_right Z h1
  have b:=Nat.mul_le_mul_right Z h2
  rw [Nat.add_mul,Nat.mul_assoc,Nat.mul_assoc,Nat.mul_left_comm 2 X,Nat.mul_left_comm 2 n] at a b
  rw [Nat.mul_add,Nat.mul_one]
  constructor
  · omega
  · omega
theorem zVj (X n G:Nat) (h1:2*X≤2*n+G) (h2:2*n≤2*X+G) (h3:G*4503599627370496≤n):X*9007199254740992≤n*9007199254740993∧n*9007199254740991≤X*9007199254740992:=by
  obtain ⟨a,b⟩:=zTz 4503599627370496 X n G h1 h2 h3
  refine ⟨a,?_⟩
  have e:n*(2*4503599627370496)=n*9007199254740991+n:=by rw [← Nat.mul_succ]
  rw [e] at b
  exact Nat.le_of_add_le_add_right b
theorem zCA (t n:Nat) (h:t=0∨2^(t+52)≤n):rndT t n*2^t*9007199254740992≤n*9007199254740993∧n*9007199254740991≤rndT t n*2^t*9007199254740992:=by
  by_cases hs:n<9007199254740992∧t=0
  · obtain ⟨h1,h2⟩:=hs
    subst h2
    have:=zFl n 0 h1
    rw [Nat.pow_zero,Nat.mul_one] at this
    rw [this,Nat.pow_zero,Nat.mul_one]
    constructor <;> omega
  · have hbig:2^(t+52)≤n:=by
      rcases h with h | h
      · subst h
        have:(2:Nat)^(0+52)=4503599627370496:=by decide
        rw [this]; omega
      · exact h
    have h0:n≠0:=by have:=Nat.two_pow_pos (t+52); omega
    have hl:t+52≤n.log2:=(Nat.le_log2 h0).2 hbig
    obtain ⟨k,hk⟩:∃ k,n.log2=k+52:=⟨n.log2 - 52,by omega⟩
    have hlt:n<2^(k+53):=(Nat.log2_lt h0).1 (by omega)
    have hge:2^(k+52)≤n:=(Nat.le_log2 h0).1 (by omega)
    have:=zD7 t n k hlt (by omega)
    have h52:(2:Nat)^52=4503599627370496:=by decide
    rw [Nat.pow_add,h52] at hge
    exact zVj _ _ _ this.1 this.2 hge
theorem zNr (t:Nat) (z:Int):(rndI t z).natAbs=rndT t z.natAbs:=by
  rcases Int.le_total 0 z with h | h
  · obtain ⟨n,rfl⟩:=Int.eq_ofNat_of_zero_le h
    rw [zAj]; simp
  · obtain ⟨n,hn⟩:=Int.eq_ofNat_of_zero_le (show 0 ≤ -z by omega)
    have hz:z = -(n:Int):=by omega
    subst hz
    rw [zDe]; simp
theorem zGg {x:Nat} {a:Int} (h:FV x a):∃ s:Bool,∃ r:Nat,r<9218868437227405312∧x=(if s then 9223372036854775808 else 0)+r∧a=(if s then (-1:Int) else 1)*((zAs r:Nat):Int):=by
  obtain ⟨hx,s,m,i,hr,hv⟩:=h
  obtain ⟨h1,h2⟩:=zH5 hx hr
  refine ⟨s,x % 9223372036854775808,?_,h2,?_⟩
  · refine Nat.lt_of_not_le fun hc=>?_
    have e1:double.signWeight=9223372036854775808:=by decide
    have e2:double.binade=4503599627370496:=by decide
    have e3:double.infRung=9218868437227405312:=by decide
    unfold Format.read at hr
    rw [e1,e2,e3] at hr
    dsimp only at hr
    rw [if_neg (by omega),if_neg (by omega)] at hr
    split at hr <;> cases hr
  · rw [← hv,zAm,h1]
theorem zRb (s:Bool) {r:Nat} (h:r<9218868437227405312):FV ((if s then 9223372036854775808 else 0)+r) ((if s then (-1:Int) else 1)*((zAs r:Nat):Int)):=by
  obtain ⟨x,hx⟩:∃ x,x=(if s then 9223372036854775808 else 0)+r:=⟨_,rfl⟩
  have hm:x % 9223372036854775808=r:=by cases s <;> simp at hx <;> omega
  have hl:x<18446744073709551616:=by cases s <;> simp at hx <;> omega
  have hf:finB x=true:=by
    unfold finB
    rw [Bool.and_eq_true]
    have e:Nat.mod x 9223372036854775808=r:=hm
    rw [e,Nat.blt_eq,Nat.blt_eq]
    exact ⟨h,hl⟩
  obtain ⟨t,ht,hxt⟩:=zCF hf
  rw [hm] at ht hxt
  rw [← hx]
  have:s=t:=by
    cases s <;> cases t <;> simp at hx hxt <;> first | rfl | omega
  subst this
  exact ht
theorem zRF {r:Nat} (h:r<2^63):r ^^^ 2^63=2^63+r:=by
  refine Nat.eq_of_testBit_eq fun i=>?_
  rw [Nat.testBit_xor,Nat.testBit_two_pow]
  rcases Nat.lt_trichotomy i 63 with hi | hi | hi
  · rw [Nat.testBit_two_pow_add_gt hi]
    have:(decide (63=i))=false:=by simp; omega
    rw [this,Bool.xor_false]
  · subst hi
    rw [Nat.testBit_two_pow_add_eq]
    simp
  · have hp:2^64≤2^i:=Nat.pow_le_pow_right (by omega) hi
    have h64:(2:Nat)^64=2^63+2^63:=by decide
    rw [Nat.testBit_lt_two_pow (show r<2^i by omega),Nat.testBit_lt_two_pow (show 2^63+r<2^i by omega)]
    have:(decide (63=i))=false:=by simp; omega
    rw [this]; rfl
theorem zHB {x:Nat} {a:Int} (h:FV x a):FV (negF x) (-a):=by
  obtain ⟨s,r,hr,hx,ha⟩:=zGg h
  have:=zRb (!s) hr
  have h63:(2:Nat)^63=9223372036854775808:=by decide
  have ht:=zRF (r:=r) (by rw [h63]; omega)
  have e:negF x=(if (!s) then 9223372036854775808 else 0)+r:=by
    show x ^^^ 2^63=_
    cases s
    · simp at hx
      subst hx
      rw [ht,h63]; rfl
    · simp at hx
      rw [← h63,← ht] at hx
      subst hx
      rw [Nat.xor_assoc,Nat.xor_self,Nat.xor_zero]; simp
  rw [e]
  have e2:-a=(if (!s) then (-1:Int) else 1)*((zAs r:Nat):Int):=by
    rw [ha]; cases s <;> simp
  rw [e2]
  exact this
theorem zDi {x:Nat} {a:Int} (h:FV x a):∃ m,maxO x (negF x)=some m∧FV m (a.natAbs:Int):=by
  have hn:=zHB h
  unfold maxO
  rw [zDh h hn]
  rcases Int.lt_trichotomy a (-a) with hl | hl | hl
  · rw [Int.compare_eq_lt.2 hl]
    refine ⟨_,rfl,?_⟩
    rw [show ((a.natAbs:Nat):Int) = -a from by omega]; exact hn
  · rw [Int.compare_eq_eq.2 hl]
    refine ⟨_,rfl,?_⟩
    rw [show ((a.natAbs:Nat):Int)=a from by omega]
    split
    · rw [show a = -a from by omega]; exact hn
    · exact h
  · rw [Int.compare_eq_gt.2 hl]
    refine ⟨_,rfl,?_⟩
    rw [show ((a.natAbs:Nat):Int)=a from by omega]; exact h
theorem zDP {x:Nat} (h1:4503599627370496≤x) (h2:x<9214364837600034816):FV x ((rvN x:Nat):Int):=by
  have:=zDv h1 h2
  rwa [zVC] at this
theorem zCT {x:Nat} (h:4503599627370496≤x):rvN x=zAs x:=by
  unfold rvN zAs; rw [if_neg (by omega)]
theorem zBx {x y:Nat} (h:4503599627370496≤x) (hxy:x≤y):rvN x≤rvN y:=by
  rw [zCT h,zCT (by omega)]
  rcases Nat.lt_or_eq_of_le hxy with h | h
  · exact Nat.le_of_lt (zDK h)
  · rw [h]; exact Nat.le_refl _
theorem zNp {v:Nat} (h:4503599627370496≤v):rvN (v+64)*35184372088832≤rvN v*35184372088833:=by
  unfold rvN
  obtain ⟨e,he⟩:∃ e,v / 4503599627370496=e+1:=⟨v / 4503599627370496 - 1,by omega⟩
  by_cases hc:v % 4503599627370496+64<4503599627370496
  · rw [show (v+64) / 4503599627370496=e+1 from by omega,show (v+64) % 4503599627370496=v % 4503599627370496+64 from by omega,he,Nat.add_sub_cancel]
    rw [Nat.mul_right_comm,Nat.mul_right_comm _ (2^e)]
    exact Nat.mul_le_mul_right _ (by omega)
  · rw [show (v+64) / 4503599627370496=e+2 from by omega,show (v+64) % 4503599627370496=v % 4503599627370496+64 - 4503599627370496 from by omega,he,Nat.add_sub_cancel,show e+2 - 1=e+1 from rfl,Nat.pow_succ,Nat.mul_comm (2^e) 2,← Nat.mul_assoc]
    rw [Nat.mul_right_comm,Nat.mul_right_comm _ (2^e)]
    exact Nat.mul_le_mul_right _ (by omega)
theorem zBO {x:Nat} (h1:4499096027743125504≤x) (h2:x≤4715268809856909312):2^1050≤rvN x∧rvN x≤2^1098:=by
  have e1:rvN 4499096027743125504=2^1050:=by decide +kernel
  have e2:rvN 4715268809856909312=2^1098:=by decide +kernel
  rw [← e1,← e2]
  exact ⟨zBx (by omega) h1,zBx (by omega) h2⟩
theorem zN8 (Y P p T D Q R E:Nat) (hD:D*9007199254740992≤E*9007199254740993) (hE:E*1000000000000≤p*10000000001*Y)
    (hQ:P*Y*9007199254740991≤Q*T*9007199254740992) (hR:Q*9007199254740991≤R*9007199254740992) (hP:p*10000000005*T≤1000000000000*P) (hT:0<T):D≤R:=by
  refine Nat.le_of_not_lt fun hlt=>?_
  have a1:D*T*9007199254740992≤E*T*9007199254740993:=by
    have:=Nat.mul_le_mul_right T hD
    rw [Nat.mul_right_comm,Nat.mul_right_comm E] at this; exact this
  have a2:E*T*1000000000000≤p*Y*T*10000000001:=by
    have:=Nat.mul_le_mul_right T hE
    rw [show E*1000000000000*T=E*T*1000000000000 from by ac_rfl,show p*10000000001*Y*T=p*Y*T*10000000001 from by ac_rfl] at this; exact this
  have a3:Q*T*9007199254740991≤R*T*9007199254740992:=by
    have:=Nat.mul_le_mul_right T hR
    rw [Nat.mul_right_comm,Nat.mul_right_comm R] at this; exact this
  have a4:p*Y*T*10000000005≤1000000000000*(P*Y):=by
    have:=Nat.mul_le_mul_right Y hP
    rw [show p*10000000005*T*Y=p*Y*T*10000000005 from by ac_rfl,Nat.mul_assoc 1000000000000] at this; exact this
  have a5:R*T<D*T:=Nat.mul_lt_mul_of_pos_right hlt hT
  generalize D*T=d at *
  generalize R*T=r at *
  generalize E*T=e at *
  generalize Q*T=q at *
  generalize P*Y=py at *
  generalize p*Y*T=z at *
  omega
theorem zUv (X Y W:Nat) (h1:1000000000000*X≤1000000000000*Y+W) (h2:1000000000000*Y - W≤1000000000000*X) (h3:W≤500000000050*Y):(X - Y+(Y - X))*1000000000000≤W:=by omega
theorem zD9:∃ T,T=2^1074∧0<T∧2^1050*16777216=T∧2^1098=T*16777216:=by
  refine ⟨_,rfl,Nat.two_pow_pos _,?_,?_⟩
  · rw [show (16777216:Nat)=2^24 from by decide,← Nat.pow_add]
  · rw [show (16777216:Nat)=2^24 from by decide,← Nat.pow_add]
theorem zUJ {V v part:Nat} {X Y P p:Nat} (hV:FV V (X:Int)) (hv:FV v (Y:Int)) (hpt:FV part (P:Int))
    (h1:1000000000000*X≤(1000000000000+p*10000000001)*Y) (h2:(1000000000000 - p*10000000001)*Y≤1000000000000*X)
    (hP:p*10000000005*2^1074≤1000000000000*P) (hP2:P≤2^1074) (hY:2^1050≤Y) (hY2:Y≤2^1098) (p1:1≤p) (p2:p≤50):zDy V v part=some true:=by
  obtain ⟨T,hT,hT0,e1,e2⟩:=zD9
  rw [← hT] at hP hP2
  have hL1:T*2^1050≤2^1074*2^1050:=by rw [hT]; exact Nat.le_refl _
  obtain ⟨L,hL⟩:∃ L,L=2^1050:=⟨_,rfl⟩
  obtain ⟨U,hU⟩:∃ U,U=2^1098:=⟨_,rfl⟩
  have hL0:0<L:=by rw [hL]; exact Nat.two_pow_pos _
  rw [← hL] at hY e1
  rw [← hU] at hY2 e2
  clear hL1
  have hPT:T≤1000000000000*P:=by
    have:1*T≤p*10000000005*T:=Nat.mul_le_mul_right T (by omega)
    omega
  have hXY:X≤2*Y:=by
    have:p*10000000001*Y≤500000000050*Y:=Nat.mul_le_mul_right Y (by omega)
    rw [Nat.add_mul] at h1
    omega
  have hYp:1≤Y:=by omega
  have bX:X≤T*33554432:=by omega
  have hE:(X - Y+(Y - X))*1000000000000≤p*10000000001*Y:=by
    rw [Nat.add_mul] at h1
    rw [Nat.sub_mul] at h2
    have:p*10000000001*Y≤500000000050*Y:=Nat.mul_le_mul_right Y (by omega)
    exact zUv X Y _ h1 h2 this
  have hab:((X:Int) - (Y:Int)).natAbs=X - Y+(Y - X):=by omega
  have small:∀ {n:Nat},n≤T*33554432→n.log2<2090:=fun {n} hn=>zAg (k:=1100) (by
    have:(2:Nat)^1100=2^1074*67108864:=by rw [show (67108864:Nat)=2^26 from by decide,← Nat.pow_add]
    rw [this,← hT]; clear this; omega) (by omega) |> fun h=>Nat.lt_trans h (by decide)
  obtain ⟨d,hd,fd⟩:=zDG hV hv (by rw [hab]; exact small (by omega))
  obtain ⟨m,hm,fm⟩:=zDi fd
  obtain ⟨n,hn,fn⟩:=zDi hv
  rw [zNr,hab] at fm
  rw [Int.natAbs_natCast] at fn
  have hPY:P*Y≤T*T*16777216:=by
    have:=Nat.mul_le_mul hP2 hY2
    rw [e2,← Nat.mul_assoc] at this; exact this
  have hPYlow:2^(1074+52)≤P*Y:=by
    have a:T*L≤1000000000000*(P*Y):=by have:=Nat.mul_le_mul hPT hY; rwa [Nat.mul_assoc] at this
    have b:2^(1074+52)*1000000000000≤T*L:=by
      rw [hT,hL,Nat.pow_add,Nat.mul_assoc]
      refine Nat.mul_le_mul_left _ ?_
      have:(2:Nat)^1050=2^52*2^998:=by rw [← Nat.pow_add]
      rw [this]
      refine Nat.mul_le_mul_left _ ?_
      have:(2:Nat)^40≤2^998:=Nat.pow_le_pow_right (by decide) (by decide)
      exact Nat.le_trans (by decide) this
    have c:2^(1074+52)*1000000000000≤P*Y*1000000000000:=by
      rw [Nat.mul_comm (P*Y)]; exact Nat.le_trans b a
    exact Nat.le_of_mul_le_mul_right c (by decide)
  obtain ⟨q,hq,fq⟩:=zCQ hpt fn (by
    rw [← Int.natCast_mul,Int.natAbs_natCast]
    refine zAg ?_ (by omega)
    have:(2:Nat)^3164=2^1074*2^1074*2^1016:=by rw [← Nat.pow_add,← Nat.pow_add]
    rw [this,← hT]
    have h2:T*T*16777216<T*T*2^1016:=Nat.mul_lt_mul_of_pos_left (Nat.lt_of_lt_of_le (show 16777216<2^25 by decide) (Nat.pow_le_pow_right (by decide) (by decide))) (Nat.mul_pos hT0 hT0)
    exact Nat.lt_of_le_of_lt hPY h2)
  rw [← Int.natCast_mul,zAj] at fq
  have hQ:=zCA 1074 (P*Y) (.inr hPYlow)
  rw [← hT] at hQ
  have fc:=zDP (x:=4427486594234968593) (by decide) (by decide)
  have hc:rvN 4427486594234968593≤T:=by rw [hT]; decide +kernel
  have hQup:rndT 1074 (P*Y)≤T*33554432:=by
    have:rndT 1074 (P*Y)*T≤T*33554432*T:=by
      have:T*33554432*T=T*T*33554432:=by ac_rfl
      rw [this]
      generalize T*T=TT at *
      generalize rndT 1074 (P*Y)*T=QT at *
      generalize P*Y=PY at *
      omega
    exact Nat.le_of_mul_le_mul_right this hT0
  have hk1:(2:Nat)^1100=2^1074*67108864:=by rw [show (67108864:Nat)=2^26 from by decide,← Nat.pow_add]
  rw [← hT] at hk1
  obtain ⟨r,hr,fr⟩:=zEv fq fc (by
    rw [← Int.natCast_add,Int.natAbs_natCast]
    refine Nat.lt_trans (zAg (k:=1100) ?_ (by omega)) (by decide)
    rw [hk1]; clear hk1 hL hU hT; omega)
  rw [← Int.natCast_add,zAj] at fr
  have hR:=zCA 0 (rndT 1074 (P*Y)+rvN 4427486594234968593) (.inl rfl)
  rw [Nat.pow_zero,Nat.mul_one] at hR
  have hD:=zCA 0 (X - Y+(Y - X)) (.inl rfl)
  rw [Nat.pow_zero,Nat.mul_one] at hD
  have hfin:=zN8 Y P p T _ _ _ _ hD.1 hE hQ.2 (Nat.le_trans (Nat.mul_le_mul_right _ (Nat.le_add_right _ _)) hR.2) hP hT0
  unfold zDy
  show (floatBits .sub .f64 V v).bind _=_
  rw [hd]
  show (maxO d (negF d)).bind _=_
  rw [hm]
  show (maxO v (negF v)).bind _=_
  rw [hn]
  show (floatBits .mul .f64 part n).bind _=_
  rw [hq]
  show (floatBits .add .f64 q 4427486594234968593).bind _=_
  rw [hr]
  show some (fle m r)=_
  rw [zGN fm fr]
  simp only [decide_eq_true_eq,Option.some.injEq]
  exact Int.ofNat_le.2 hfin
def zGB (p part:Nat):Bool:=posB part&&(Nat.ble (p*10000000005*2^1074) (1000000000000*rvN part)&&Nat.ble (rvN part) (2^1074))
theorem zG5 {p part:Nat} (h:zGB p part=true):FV part ((rvN part:Nat):Int)∧p*10000000005*2^1074≤1000000000000*rvN part∧rvN part≤2^1074:=by
  unfold zGB at h
  simp only [Bool.and_eq_true] at h
  obtain ⟨h1,h2,h3⟩:=h
  obtain ⟨a,b⟩:=zCN h1
  exact ⟨zDP a (by omega),Nat.le_of_ble_eq_true h2,Nat.le_of_ble_eq_true h3⟩
theorem zN1 {v c:Nat} (hv1:4499096027743125504≤v) (hv2:v≤4715268809856909312) (hc1:4499096027743125504≤c) (hc2:c≤4715268809856909312) :
    ∃ s S T:Nat,T=2^1074∧0<T∧fmul v c=some s∧FV s (S:Int)∧S*T*9007199254740992≤rvN v*rvN c*9007199254740993∧rvN v*rvN c*9007199254740991≤S*T*9007199254740992:=by
  obtain ⟨T,hT,hT0,e1,e2⟩:=zD9
  obtain ⟨y1,y2⟩:=zBO hv1 hv2
  obtain ⟨c1,c2⟩:=zBO hc1 hc2
  have hlow:2^(1074+52)≤rvN v*rvN c:=by
    have:=Nat.mul_le_mul y1 c1
    rw [← Nat.pow_add] at this
    exact Nat.le_trans (Nat.pow_le_pow_right (by omega) (by omega)) this
  have hup:rvN v*rvN c<2^3164:=by
    have:=Nat.mul_le_mul y2 c2
    rw [← Nat.pow_add] at this
    exact Nat.lt_of_le_of_lt this (Nat.pow_lt_pow_right (by omega) (by omega))
  obtain ⟨s,hs,fs⟩:=zCQ (zDP (x:=v) (by omega) (by omega)) (zDP (x:=c) (by omega) (by omega)) (by
    rw [← Int.natCast_mul,Int.natAbs_natCast]
    exact zAg hup (by omega))
  rw [← Int.natCast_mul,zAj] at fs
  have hr:=zCA 1074 (rvN v*rvN c) (.inr hlow)
  rw [← hT] at hr
  exact ⟨s,_,T,hT,hT0,hs,fs,hr.1,hr.2⟩
theorem zVx (B Y C S T:Nat) (h1:B*35184372088832≤Y*35184372088833) (h2:Y*C*9007199254740991≤S*T*9007199254740992) (h3:10000000009*T≤10000000000*C) (hT:0<T):B≤S:=by
  refine Nat.le_of_not_lt fun hlt=>?_
  have a1:B*T*35184372088832≤Y*T*35184372088833:=by
    have:=Nat.mul_le_mul_right T h1
    rw [Nat.mul_right_comm,Nat.mul_right_comm Y] at this; exact this
  have a2:Y*T*10000000009≤Y*C*10000000000:=by
    have:=Nat.mul_le_mul_left Y h3
    rw [show Y*(10000000009*T)=Y*T*10000000009 from by ac_rfl,show Y*(10000000000*C)=Y*C*10000000000 from by ac_rfl] at this; exact this
  have a5:S*T<B*T:=Nat.mul_lt_mul_of_pos_right hlt hT
  generalize B*T=b at *
  generalize Y*T=y at *
  generalize Y*C=z at *
  generalize S*T=s at *
  omega
theorem zUk (B Y C S T:Nat) (h1:Y*35184372088832≤B*35184372088833) (h2:S*T*9007199254740992≤Y*C*9007199254740993) (h3:10000000000*C≤9999999991*T) (hT:0<T):S≤B:=by
  refine Nat.le_of_not_lt fun hlt=>?_
  have a1:Y*T*35184372088832≤B*T*35184372088833:=by
    have:=Nat.mul_le_mul_right T h1
    rw [Nat.mul_right_comm,Nat.mul_right_comm B] at this; exact this
  have a2:Y*C*10000000000≤Y*T*9999999991:=by
    have:=Nat.mul_le_mul_left Y h3
    rw [show Y*(9999999991*T)=Y*T*9999999991 from by ac_rfl,show Y*(10000000000*C)=Y*C*10000000000 from by ac_rfl] at this; exact this
  have a5:B*T<S*T:=Nat.mul_lt_mul_of_pos_right hlt hT
  generalize B*T=b at *
  generalize Y*T=y at *
  generalize Y*C=z at *
  generalize S*T=s at *
  omega
def zKG (p V v:Nat):Prop:=4503599627370496≤V∧V<9142307245003341824∧1000000000000*rvN V≤(1000000000000+p*10000000001)*rvN v∧(1000000000000 - p*10000000001)*rvN v≤1000000000000*rvN V
def zTW (idx:Nat→Option Int) (lower value:Int→Option Nat) (p part v:Nat):Prop :=
  ∃ i V b b' s t,idx v=some i∧value i=some V∧lower i=some b∧lower (i+1)=some b'∧zDy V v part=some true∧fmul v 4607182418804521008=some s∧fgt b s=false∧fmul v 4607182418791010209=some t∧flt b' t=false∧zKG p V v
theorem zCf {idx:Nat→Option Int} {lower value:Int→Option Nat} {rb p part v:Nat} (hval:∀ i b V,lower i=some b→qmul b rb=some V→value i=some V) (hl:Lies idx lower rb p v)
    (hp:zGB p part=true) (p1:1≤p) (p2:p≤50) (v1:4517329193108106637≤v) (v2:v≤4696837146684686336):zTW idx lower value p part v:=by
  obtain ⟨i,b,b',V,f1,f2,f3,f4,f5,l1,l2⟩:=hl
  obtain ⟨r1,⟨r2,r3⟩,q1,q2,q3,w1,w2⟩:=zEV f5
  obtain ⟨V1,V2⟩:=zCN q1
  obtain ⟨b1,-⟩:=zCN q2
  obtain ⟨c1,c2⟩:=zCN q3
  obtain ⟨fp,hP,hP2⟩:=zG5 hp
  obtain ⟨y1,y2⟩:=zBO (x:=v) (by omega) (by omega)
  have hv:=zDP (x:=v) (by omega) (by omega)
  have n1:1000000000000*rvN V≤(1000000000000+p*10000000001)*rvN v:=Nat.le_trans w1 (Nat.mul_le_mul_left _ (zBx b1 (by omega)))
  have n2:(1000000000000 - p*10000000001)*rvN v≤1000000000000*rvN V:=Nat.le_trans (Nat.mul_le_mul_left _ (zBx (by omega) l2)) w2
  have hn:=zUJ (zDP V1 (by omega)) hv fp n1 n2 hP hP2 y1 y2 p1 p2
  obtain ⟨s,S,T,hT,hT0,hs,fs,-,s2⟩:=zN1 (v:=v) (c:=4607182418804521008) (by omega) (by omega) (by decide) (by decide)
  obtain ⟨t,S',T',hT',-,ht,ft,t1,-⟩:=zN1 (v:=v) (c:=4607182418791010209) (by omega) (by omega) (by decide) (by decide)
  have hTT:T'=T:=by rw [hT,hT']
  rw [hTT] at t1
  have k1:10000000009*T≤10000000000*rvN 4607182418804521008:=by rw [hT]; decide +kernel
  have k2:10000000000*rvN 4607182418791010209≤9999999991*T:=by rw [hT]; decide +kernel
  have g1:rvN b≤S:=by
    refine zVx (rvN b) (rvN v) _ S T ?_ s2 k1 hT0
    exact Nat.le_trans (Nat.mul_le_mul_right _ (zBx (by omega) l1)) (zNp (by omega))
  have g2:S'≤rvN b':=by
    refine zUk (rvN b') (rvN v) _ S' T ?_ t1 k2 hT0
    exact Nat.le_trans (Nat.mul_le_mul_right _ (zBx (by omega) l2)) (zNp (by omega))
  refine ⟨i,V,b,b',s,t,f1,hval i b V f2 f4,f2,f3,hn,hs,?_,ht,?_,V1,V2,n1,n2⟩
  · rw [zBa (zDP (x:=b) (by omega) (by omega)) fs,decide_eq_false_iff_not]
    exact Int.not_lt.2 (Int.ofNat_le.2 g1)
  · rw [zBD (zDP (x:=b') (by omega) (by omega)) ft,decide_eq_false_iff_not]
    exact Int.not_lt.2 (Int.ofNat_le.2 g2)
end Go.Proofs.YtllaekopaglolaaGreat
end
/-
  Sums of floats,plainly: how near they are to the exact sum,in parts of a bound M of all that is added.
-/
section
namespace Go.Proofs.YtllaekopaglolaaGreat
open Go.RowKit
open Ieee
set_option exponentiation.threshold 5000
theorem zVb (n:Nat):BB (1021+n)=((2^n:Nat):Rat):=by
  induction n with
  | zero=>rw [zOr _ rfl]; rfl
  | succ n ih =>
    rw [show 1021+(n+1)=(1021+n)+1 from rfl,zJG,ih,Nat.pow_succ,Rat.natCast_mul]
    grind
theorem zWf {z:Int} {B:Rat} (h1:-B≤qv z) (h2:qv z≤B):-(B / 9007199254740992)≤qv (rndI 0 z) - qv z∧qv (rndI 0 z) - qv z≤B / 9007199254740992:=by
  have key:∀ n:Nat,qv ((n:Nat):Int)≤B → -(B / 9007199254740992)≤qv ((rndT 0 n:Nat):Int) - qv ((n:Nat):Int)∧qv ((rndT 0 n:Nat):Int) - qv ((n:Nat):Int)≤B / 9007199254740992:=fun n hn=>by
    obtain ⟨a,b⟩:=zCA 0 n (.inl rfl)
    rw [Nat.pow_zero,Nat.mul_one] at a b
    have q1:qv (((rndT 0 n*9007199254740992:Nat)):Int)≤qv ((n*9007199254740993:Nat):Int):=zA9 (Int.ofNat_le.2 a)
    have q2:qv ((n*9007199254740991:Nat):Int)≤qv (((rndT 0 n*9007199254740992:Nat)):Int):=zA9 (Int.ofNat_le.2 b)
    have e:∀ m c:Nat,qv ((m*c:Nat):Int)=qv ((m:Nat):Int)*(c:Rat):=fun m c=>by
      unfold qv; rw [Int.natCast_mul,Rat.intCast_mul,Rat.intCast_natCast,Rat.intCast_natCast]; grind
    rw [e,e] at q1 q2
    have f1:((9007199254740992:Nat):Rat)=9007199254740992:=rfl
    have f2:((9007199254740993:Nat):Rat)=9007199254740993:=rfl
    have f3:((9007199254740991:Nat):Rat)=9007199254740991:=rfl
    rw [f1,f2] at q1
    rw [f1,f3] at q2
    generalize qv ((rndT 0 n:Nat):Int)=r at *
    generalize qv ((n:Nat):Int)=x at *
    constructor <;> grind
  rcases Int.le_total 0 z with h | h
  · obtain ⟨n,rfl⟩:=Int.eq_ofNat_of_zero_le h
    rw [zAj]
    exact key n h2
  · obtain ⟨n,hn⟩:=Int.eq_ofNat_of_zero_le (show 0 ≤ -z by omega)
    have hz:z = -(n:Int):=by omega
    subst hz
    rw [zDe,zCr,zCr]
    rw [zCr] at h1
    obtain ⟨a,b⟩:=key n (by grind)
    constructor <;> grind
theorem zKT {z:Int} {B:Rat} (h1:-B≤qv z) (h2:qv z≤B) (hB:B≤35184372088832):z.natAbs.log2<2090:=by
  have e:=zVb 46
  have e2:((2^46:Nat):Rat)=70368744177664:=by decide
  rw [e2] at e
  have h:z.natAbs<2^(1021+46+53):=zH7 (by rw [e]; grind) (by rw [e]; grind)
  exact Nat.lt_trans (zAg h (by decide)) (by decide)
theorem zQ6 {x y:Nat} {a b:Int} (hx:FV x a) (hy:FV y b) (B:Rat) (h1:-B≤qv a+qv b) (h2:qv a+qv b≤B) (hB:B≤35184372088832) :
    ∃ z c,fadd x y=some z∧FV z c ∧ -(B / 9007199254740992)≤qv c - (qv a+qv b)∧qv c - (qv a+qv b)≤B / 9007199254740992:=by
  rw [← zA8] at h1 h2 ⊢
  obtain ⟨z,hz,hf⟩:=zEv hx hy (zKT h1 h2 hB)
  exact ⟨z,_,hz,hf,zWf h1 h2⟩
theorem zEj {x y:Nat} {a b:Int} (hx:FV x a) (hy:FV y b) (B:Rat) (h1:-B≤qv a - qv b) (h2:qv a - qv b≤B) (hB:B≤35184372088832) :
    ∃ z c,fsub x y=some z∧FV z c ∧ -(B / 9007199254740992)≤qv c - (qv a - qv b)∧qv c - (qv a - qv b)≤B / 9007199254740992:=by
  rw [← zNt] at h1 h2 ⊢
  obtain ⟨z,hz,hf⟩:=zDG hx hy (zKT h1 h2 hB)
  exact ⟨z,_,hz,hf,zWf h1 h2⟩
def kahF (s c x:Nat):Option (Nat × Nat):=(fsub x c).bind fun t=>(fadd s t).bind fun v=>(fsub v s).bind fun d=>(fsub d t).bind fun c'=>some (v,c')
structure KInv (s c:Nat) (E:Int) (M:Rat) (k:Rat):Prop where
  m0:0≤M
  m1:M≤1099511627776
  k0:0≤k
  k1:k≤1000
  e1:-M≤qv E
  e2:qv E≤M
  ex:∃ S C,FV s S∧FV c C ∧ -(k*M / 34359738368)≤qv S - qv E∧qv S - qv E≤k*M / 34359738368 ∧ -(M / 68719476736)≤qv C∧qv C≤M / 68719476736
theorem zUa {s c x:Nat} {X e E:Int} {M k:Rat} (h:KInv s c E M k) (hx:FV x X) (x1:-(M / 9007199254740992)≤qv X - qv e) (x2:qv X - qv e≤M / 9007199254740992) (b1:-M≤qv e) (b2:qv e≤M)
    (n1:-M≤qv (E+e)) (n2:qv (E+e)≤M) (hk:k+1≤1000):∃ s' c',kahF s c x=some (s',c')∧KInv s' c' (E+e) M (k+1):=by
  obtain ⟨m0,m1,k0,k1,e1,e2,S,C,hs,hc,s1,s2,c1,c2⟩:=h
  have hkM:0≤k*M:=Rat.mul_nonneg k0 m0
  have hkM2:k*M≤1000*M:=Rat.mul_le_mul_of_nonneg_right k1 m0
  obtain ⟨t,T,ht,ft,t1,t2⟩:=zEj hx hc (2*M) (by grind) (by grind) (by grind)
  obtain ⟨v,V,hv,fv,v1,v2⟩:=zQ6 hs ft (5*M) (by grind) (by grind) (by grind)
  obtain ⟨d,D,hd,fd,d1,d2⟩:=zEj fv hs (3*M) (by grind) (by grind) (by grind)
  obtain ⟨c',C',hc',fc',c1',c2'⟩:=zEj fd ft M (by grind) (by grind) (by grind)
  refine ⟨v,c',?_,m0,m1,by grind,hk,n1,n2,V,C',fv,fc',?_,?_,?_,?_⟩
  · unfold kahF
    rw [ht]; show (fadd s t).bind _=_
    rw [hv]; show (fsub v s).bind _=_
    rw [hd]; show (fsub d t).bind _=_
    rw [hc']; rfl
  · rw [zA8]; grind
  · rw [zA8]; grind
  · grind
  · grind
structure NInv (s:Nat) (E:Int) (M:Rat) (k:Rat):Prop where
  m0:0≤M
  m1:M≤1099511627776
  k0:0≤k
  k1:k≤1000
  e1:-M≤qv E
  e2:qv E≤M
  ex:∃ S,FV s S ∧ -(k*M / 34359738368)≤qv S - qv E∧qv S - qv E≤k*M / 34359738368
theorem zJB {s x:Nat} {X e E:Int} {M k:Rat} (h:NInv s E M k) (hx:FV x X) (x1:-(M / 9007199254740992)≤qv X - qv e) (x2:qv X - qv e≤M / 9007199254740992) (b1:-M≤qv e) (b2:qv e≤M)
    (n1:-M≤qv (E+e)) (n2:qv (E+e)≤M) (hk:k+1≤1000):∃ s',fadd s x=some s'∧NInv s' (E+e) M (k+1):=by
  obtain ⟨m0,m1,k0,k1,e1,e2,S,hs,s1,s2⟩:=h
  have hkM:0≤k*M:=Rat.mul_nonneg k0 m0
  have hkM2:k*M≤1000*M:=Rat.mul_le_mul_of_nonneg_right k1 m0
  obtain ⟨t,T,ht,ft,t1,t2⟩:=zQ6 hs hx (4*M) (by grind) (by grind) (by grind)
  refine ⟨t,ht,m0,m1,by grind,hk,n1,n2,T,ft,?_,?_⟩
  · rw [zA8]; grind
  · rw [zA8]; grind
end Go.Proofs.YtllaekopaglolaaGreat
end
/-
  The summary of a sketch: its walks.
-/
section
namespace Go.Proofs.YtllaekopaglolaaGreat
open Go.RowKit
def St6 (w:World) (p c s k l mn mx:Nat):Prop:=w.heap[p]?=some (.cells #[.float .f64 c,.float .f64 s,.float .f64 k,.float .f64 l,.float .f64 mn,.float .f64 mx] 113 (0,0))
section
variable {w:World} {p c s k l mn mx x:Nat}
theorem St6.cells (h:St6 w p c s k l mn mx):w.cell? ⟨p,0,none⟩=some (.float .f64 c)∧w.cell? ⟨p,1,none⟩=some (.float .f64 s)∧w.cell? ⟨p,2,none⟩=some (.float .f64 k)∧w.cell? ⟨p,3,none⟩=some (.float .f64 l)∧w.cell? ⟨p,4,none⟩=some (.float .f64 mn)∧w.cell? ⟨p,5,none⟩=some (.float .f64 mx) :=
  ⟨cell_of_row _ _ 0 _ _ _ h,cell_of_row _ _ 1 _ _ _ h,cell_of_row _ _ 2 _ _ _ h,cell_of_row _ _ 3 _ _ _ h,cell_of_row _ _ 4 _ _ _ h,cell_of_row _ _ 5 _ _ _ h⟩
theorem St6.free (h:St6 w p c s k l mn mx) (i:Nat):w.frozen? ⟨p,i,none⟩=false:=frozen_of_row w p i _ _ h
theorem St6.set0 (h:St6 w p c s k l mn mx):St6 (w.setCell ⟨p,0,none⟩ (.float .f64 x)) p x s k l mn mx:=(heap_setCell_same w p 0 _ _ _ h).trans rfl
theorem St6.set1 (h:St6 w p c s k l mn mx):St6 (w.setCell ⟨p,1,none⟩ (.float .f64 x)) p c x k l mn mx:=(heap_setCell_same w p 1 _ _ _ h).trans rfl
theorem St6.set2 (h:St6 w p c s k l mn mx):St6 (w.setCell ⟨p,2,none⟩ (.float .f64 x)) p c s x l mn mx:=(heap_setCell_same w p 2 _ _ _ h).trans rfl
theorem St6.set3 (h:St6 w p c s k l mn mx):St6 (w.setCell ⟨p,3,none⟩ (.float .f64 x)) p c s k x mn mx:=(heap_setCell_same w p 3 _ _ _ h).trans rfl
theorem St6.set4 (h:St6 w p c s k l mn mx):St6 (w.setCell ⟨p,4,none⟩ (.float .f64 x)) p c s k l x mx:=(heap_setCell_same w p 4 _ _ _ h).trans rfl
theorem St6.set5 (h:St6 w p c s k l mn mx):St6 (w.setCell ⟨p,5,none⟩ (.float .f64 x)) p c s k l mn x:=(heap_setCell_same w p 5 _ _ _ h).trans rfl
theorem St6.drew (h:St6 w p c s k l mn mx):St6 w.drew p c s k l mn mx:=h
theorem St6.drewN (h:St6 w p c s k l mn mx) (n:Nat):St6 (w.drewN n) p c s k l mn mx:=h
end
set_option maxRecDepth 100000 in
theorem zUf (w:World):Calls Tryz.prog 75 #[.int .i64 1] w fun e w'=>e = .returned (.float .f64 9218868437227405312)∧w=w':=by
  go_enter Tryz.func75,Tryz.ntmps75
  go_wp2_with (go_at_call 66; (with_reducible refine (zAZ _ _).mono ?_); rintro e w' ⟨rfl,rfl⟩)
  go_ret
  exact ⟨rfl,rfl⟩
set_option maxRecDepth 100000 in
theorem zUg (w:World):Calls Tryz.prog 75 #[.int .i64 (-1)] w fun e w'=>e = .returned (.float .f64 18442240474082181120)∧w=w':=by
  go_enter Tryz.func75,Tryz.ntmps75
  go_wp2_with (go_at_call 66; (with_reducible refine (zAZ _ _).mono ?_); rintro e w' ⟨rfl,rfl⟩)
  go_ret
  exact ⟨rfl,rfl⟩
set_option maxRecDepth 100000 in
theorem zKd (w:World):Calls Tryz.prog 60 #[] w fun e w'=>∃ p,e = .returned (.pointer (some ⟨p,0,none⟩))∧w.heap.size≤p∧St6 w' p 0 0 0 0 9218868437227405312 18442240474082181120∧Below w.heap.size w w':=by
  go_enter Tryz.func60,Tryz.ntmps60
  go_wp2_with (first | (go_at_call 75; (with_reducible refine (zUf _).mono ?_); rintro e w' ⟨rfl,rfl⟩) | (go_at_call 75; (with_reducible refine (zUg _).mono ?_); rintro e w' ⟨rfl,rfl⟩))
  go_ret
  exact ⟨_,rfl,Nat.le_refl _,heap_alloc_new _ _,(Below.refl _ _).alloc (Nat.le_refl _) _⟩
set_option maxRecDepth 100000 in
theorem zKF (p c s k l mn mx x c':Nat) (w:World) (h:St6 w p c s k l mn mx) (hc:fadd c x=some c') :
    Calls Tryz.prog 76 #[.pointer (some ⟨p,0,none⟩),.float .f64 x] w fun e w'=>e = .returned (.tuple #[])∧St6 w' p c' s k l mn mx∧Fr (fun b=>b=p) w w':=by
  have q:=fun w:World=>run_float_arith (P:=Tryz.prog) w .add 29 .f64 c x c' hc
  obtain ⟨d0,-⟩:=h.cells
  have f0:=h.free 0
  have H:=Lib.hid h
  clear h hc
  go_enter Tryz.func76,Tryz.ntmps76
  go_wp2
  go_end0
  exact ⟨rfl,H.out.set0,(show Fr (fun b=>b=p) w w from Fr.refl _ _).setCell (p:=⟨p,0,none⟩) (fun _=>rfl) _⟩
set_option maxRecDepth 100000 in
set_option maxHeartbeats 800000 in
theorem zM6 (p c s k l mn mx x s' k':Nat) (w:World) (h:St6 w p c s k l mn mx) (hc:kahF s k x=some (s',k')) :
    Calls Tryz.prog 64 #[.pointer (some ⟨p,0,none⟩),.float .f64 x] w fun e w'=>e = .returned (.tuple #[])∧St6 w' p c s' k' l mn mx∧Fr (fun b=>b=p) w w':=by
  unfold kahF at hc
  simp only [Option.bind_eq_some_iff,Option.some.injEq,Prod.mk.injEq] at hc
  obtain ⟨t,ht,v,hv,d,hd,c2,hc2,rfl,rfl⟩:=hc
  have q1:=fun w:World=>run_float_arith (P:=Tryz.prog) w .sub 29 .f64 x k t ht
  have q2:=fun w:World=>run_float_arith (P:=Tryz.prog) w .add 29 .f64 s t v hv
  have q3:=fun w:World=>run_float_arith (P:=Tryz.prog) w .sub 29 .f64 v s d hd
  have q4:=fun w:World=>run_float_arith (P:=Tryz.prog) w .sub 29 .f64 d t c2 hc2
  obtain ⟨-,d1,d2,-⟩:=h.cells
  have f1:=h.free 1
  have f2:=h.free 2
  have H:=Lib.hid h
  clear h ht hv hd hc2
  go_enter Tryz.func64,Tryz.ntmps64
  go_wp2
  go_end0
  exact ⟨rfl,H.out.set2.set1,((show Fr (fun b=>b=p) w w from Fr.refl _ _).setCell (p:=⟨p,2,none⟩) (fun _=>rfl) _).setCell (p:=⟨p,1,none⟩) (fun _=>rfl) _⟩
set_option maxRecDepth 100000 in
set_option maxHeartbeats 800000 in
theorem zQ7 (p c s k l mn mx x s' k' l':Nat) (w:World) (h:St6 w p c s k l mn mx) (hc:kahF s k x=some (s',k')) (hl:fadd l x=some l') :
    Calls Tryz.prog 77 #[.pointer (some ⟨p,0,none⟩),.float .f64 x] w fun e w'=>e = .returned (.tuple #[])∧St6 w' p c s' k' l' mn mx∧Fr (fun b=>b=p) w w':=by
  have q:=fun w:World=>run_float_arith (P:=Tryz.prog) w .add 29 .f64 l x l' hl
  have HK:=zM6 p c s k l mn mx x s' k' w h hc
  clear h hc hl
  go_enter Tryz.func77,Tryz.ntmps77
  go_wp2_with (go_at_call 64; (with_reducible refine HK.mono ?_); rintro e w1 ⟨rfl,h1,hf⟩; have d3:=h1.cells.2.2.2.1; have f3:=h1.free 3; have H:=Lib.hid h1; have HF:=Lib.hid hf; clear h1 hf HK)
  go_end0
  exact ⟨rfl,H.out.set3,HF.out.setCell (p:=⟨p,3,none⟩) (fun _=>rfl) _⟩
set_option maxRecDepth 100000 in
set_option maxHeartbeats 1600000 in
theorem zNZ (p c s k l mn mx v n x c' s' k' l':Nat) (w:World) (h:St6 w p c s k l mn mx) (hn:fadd c n=some c') (hx:fmul v n=some x) (hc:kahF s k x=some (s',k')) (hl:fadd l x=some l') :
    Calls Tryz.prog 62 #[.pointer (some ⟨p,0,none⟩),.float .f64 v,.float .f64 n] w fun e w'=>e = .returned (.tuple #[])∧St6 w' p c' s' k' l' (if flt v mn=true then v else mn) (if fgt v mx=true then v else mx)∧Fr (fun b=>b=p) w w':=by
  have q:=fun w:World=>run_float_arith (P:=Tryz.prog) w .mul 29 .f64 v n x hx
  have HA:=zKF p c s k l mn mx n c' w h hn
  have HB:=fun w h=>zQ7 p c' s k l mn mx x s' k' l' w h hc hl
  obtain ⟨b1,h1⟩:∃ b,flt v mn=b:=⟨_,rfl⟩
  obtain ⟨b2,h2⟩:∃ b,fgt v mx=b:=⟨_,rfl⟩
  rw [h1,h2]
  have k1:(FloatKind.f64.format.order v mn == some .lt)=b1:=h1
  have k2:(FloatKind.f64.format.order v mx == some .gt)=b2:=h2
  clear h hc hl hn hx h1 h2
  cases b1 <;> cases b2 <;> (
    go_enter Tryz.func62,Tryz.ntmps62
    go_wp2_with (first | (go_at_call 76; (with_reducible refine HA.mono ?_); rintro e w1 ⟨rfl,g1,hf1⟩; have HB1:=HB w1 g1; have HF1:=Lib.hid hf1; clear g1 hf1 HA HB) | (go_at_call 77; (with_reducible refine HB1.mono ?_); rintro e w2 ⟨rfl,g2,hf2⟩; have d4:=g2.cells.2.2.2.2.1; have d5:=g2.cells.2.2.2.2.2; have f4:=g2.free 4; have f5:=g2.free 5; have H:=Lib.hid g2; have HF2:=Lib.hid hf2; clear g2 hf2 HB1))
    go_end0
    have F:=HF1.out.trans HF2.out (fun _ _ h=>h) (fun _ _ h=>h)
    first
      | exact ⟨rfl,H.out,F⟩
      | exact ⟨rfl,H.out.set4,F.setCell (p:=⟨p,4,none⟩) (fun _=>rfl) _⟩
      | exact ⟨rfl,H.out.set5,F.setCell (p:=⟨p,5,none⟩) (fun _=>rfl) _⟩
      | exact ⟨rfl,H.out.set4.set5,(F.setCell (p:=⟨p,4,none⟩) (fun _=>rfl) _).setCell (p:=⟨p,5,none⟩) (fun _=>rfl) _⟩)
set_option maxRecDepth 100000 in
theorem zJn (x:Nat) (w:World) (hx:zA7 x=true):Calls Tryz.prog 67 #[.float .f64 x] w fun e w'=>e = .returned (.bool false)∧w=w':=by
  have hn:(FloatKind.f64.format.order x x != some .eq)=false:=by
    have h:(FloatKind.f64.format.order x x == some .eq)=true:=hx
    unfold bne
    rw [h]; rfl
  go_enter Tryz.func67,Tryz.ntmps67
  go_wp2
  go_ret
  exact ⟨rfl,rfl⟩
set_option maxRecDepth 100000 in
theorem zKP (p c s k l mn mx x:Nat) (w:World) (h:St6 w p c s k l mn mx) (hx:fadd s k=some x) (hn:zA7 x=true) :
    Calls Tryz.prog 50 #[.pointer (some ⟨p,0,none⟩)] w fun e w'=>e = .returned (.float .f64 x)∧∃ n,w'=w.drewN n:=by
  have q:=fun w:World=>run_float_arith (P:=Tryz.prog) w .add 29 .f64 s k x hx
  obtain ⟨-,d1,d2,d3,-,-⟩:=h.cells
  have HN:=fun w=>zJn x w hn
  clear h hx hn
  go_enter Tryz.func50,Tryz.ntmps50
  go_wp2_with fail
  go_quiet (fail)
  go_wp2_with (go_at_call 67; (with_reducible refine (HN _).mono ?_); rintro e w' ⟨rfl,rfl⟩)
  go_ret
  exact ⟨rfl,_,rfl⟩
set_option maxRecDepth 100000 in
theorem zI6 (p c s k l mn mx:Nat) (w:World) (h:St6 w p c s k l mn mx):Calls Tryz.prog 49 #[.pointer (some ⟨p,0,none⟩)] w fun e w'=>e = .returned (.float .f64 c)∧w=w':=by
  obtain ⟨d0,-⟩:=h.cells
  clear h
  go_enter Tryz.func49,Tryz.ntmps49
  go_wp2
  go_ret
  exact ⟨rfl,rfl⟩
set_option maxRecDepth 100000 in
theorem zHF (p c s k l mn mx:Nat) (w:World) (h:St6 w p c s k l mn mx):Calls Tryz.prog 45 #[.pointer (some ⟨p,0,none⟩)] w fun e w'=>e = .returned (.float .f64 mn)∧w=w':=by
  obtain ⟨-,-,-,-,d4,-⟩:=h.cells
  clear h
  go_enter Tryz.func45,Tryz.ntmps45
  go_wp2
  go_ret
  exact ⟨rfl,rfl⟩
set_option maxRecDepth 100000 in
theorem zHH (p c s k l mn mx:Nat) (w:World) (h:St6 w p c s k l mn mx):Calls Tryz.prog 46 #[.pointer (some ⟨p,0,none⟩)] w fun e w'=>e = .returned (.float .f64 mx)∧w=w':=by
  obtain ⟨-,-,-,-,-,d5⟩:=h.cells
  clear h
  go_enter Tryz.func46,Tryz.ntmps46
  go_wp2
  go_ret
  exact ⟨rfl,rfl⟩
end Go.Proofs.YtllaekopaglolaaGreat
end
