/-
  Values with their counts,plainly: what each adds,how great all are; the bins of a sketch.
-/
import Derived.Test.YtllaekopaglolaaGreatGBD
import Derived.Test.YtllaekopaglolaaGreatGAL
import Derived.Test.YtllaekopaglolaaGreatGAM
import Derived.Test.YtllaekopaglolaaGreatGAR
import Derived.Test.YtllaekopaglolaaGreatGBB
section
namespace Go.Proofs.YtllaekopaglolaaGreat
open Go.RowKit
open Ieee
set_option exponentiation.threshold 5000
abbrev Items:=List (Nat × Nat)
def vI (v:Nat):Int:=if v<9223372036854775808 then ((rungV v:Nat):Int) else -((rungV (v - 9223372036854775808):Nat):Int)
structure ItemOk (q:Nat × Nat):Prop where
  lt:q.1<18446744073709551616
  fits:fitsB q.1=true
  c1:1≤q.2
  c2:q.2≤100
theorem fits_vI {v:Nat} (hv:v<18446744073709551616) (h:fitsB v=true):FV v (vI v) ∧
    ((vI v=0∧(v=0∨v=9223372036854775808))∨(0<vI v∧4517329193108106637≤v∧v≤4696837146684686336∧vI v=((rvN v:Nat):Int)) ∨
      (vI v<0∧9223372036854775808<v∧4517329193108106637≤v - 9223372036854775808∧v - 9223372036854775808≤4696837146684686336∧vI v = -((rvN (v - 9223372036854775808):Nat):Int)∧negF v=v - 9223372036854775808)):=by
  obtain ⟨s,r,hx,hf,hr⟩:=fits_parts hv h
  have hpos:∀ {r:Nat},4517329193108106637≤r→0<rungV r:=fun {r} h=>by
    have h0:rungV r≠0:=fun e=>by have:=rungV_zero.1 e; omega
    omega
  cases s
  · have hv2:v=r:=by simpa using hx
    subst hv2
    have hrb:v<9223372036854775808:=by omega
    have e:vI v=((rungV v:Nat):Int):=by unfold vI; rw [if_pos hrb]
    rw [e]
    refine ⟨by simpa using hf,?_⟩
    rcases hr with h0 | ⟨h1,h2⟩
    · subst h0
      exact .inl ⟨by rw [rungV_zero.2 rfl]; rfl,.inl rfl⟩
    · refine .inr (.inl ⟨?_,h1,h2,by rw [rvN_rung (by omega)]⟩)
      have:=hpos h1; omega
  · have hv2:v=9223372036854775808+r:=by simpa using hx
    have hrb:¬ v<9223372036854775808:=by omega
    have hsub:v - 9223372036854775808=r:=by omega
    have e:vI v = -((rungV r:Nat):Int):=by unfold vI; rw [if_neg hrb,hsub]
    rw [e,hsub]
    refine ⟨by simpa using hf,?_⟩
    rcases hr with h0 | ⟨h1,h2⟩
    · subst h0
      exact .inl ⟨by rw [rungV_zero.2 rfl]; rfl,.inr hv2⟩
    · refine .inr (.inr ⟨?_,by omega,h1,h2,by rw [rvN_rung (by omega)],?_⟩)
      · have:=hpos h1; omega
      · have h63:(2:Nat)^63=9223372036854775808:=by decide
        have ht:=xor_top (r:=r) (by rw [h63]; omega)
        show v ^^^ 2^63=r
        rw [hv2,← h63,← ht,Nat.xor_assoc,Nat.xor_self,Nat.xor_zero]
def eI (q:Nat × Nat):Int:=vI q.1*(q.2:Int)
def sumI:Items→Int
  | []=>0
  | q :: t=>eI q+sumI t
def absI:Items→Int
  | []=>0
  | q :: t=>((eI q).natAbs:Int)+absI t
theorem sumI_append (a b:Items):sumI (a++b)=sumI a+sumI b:=by
  induction a with
  | nil=>show sumI b=0+sumI b; omega
  | cons q t ih=>show eI q+sumI (t++b)=eI q+sumI t+sumI b; rw [ih]; omega
theorem absI_append (a b:Items):absI (a++b)=absI a+absI b:=by
  induction a with
  | nil=>show absI b=0+absI b; omega
  | cons q t ih=>show _+absI (t++b)=_+absI t+absI b; rw [ih]; omega
theorem absI_nonneg (a:Items):0≤absI a:=by
  induction a with
  | nil=>exact Int.le_refl _
  | cons q t ih=>show 0≤_+absI t; omega
theorem sumI_le (a:Items):-absI a≤sumI a∧sumI a≤absI a:=by
  induction a with
  | nil=>exact ⟨Int.le_refl _,Int.le_refl _⟩
  | cons q t ih=>show -(_+absI t)≤eI q+sumI t∧eI q+sumI t≤_+absI t; omega
theorem sumI_perm {a b:Items} (h:a.Perm b):sumI a=sumI b:=by
  induction h with
  | nil=>rfl
  | cons x _ ih=>show _+_=_+_; rw [ih]
  | swap x y l=>show eI y+(eI x+sumI l)=eI x+(eI y+sumI l); omega
  | trans _ _ i1 i2=>rw [i1,i2]
theorem absI_perm {a b:Items} (h:a.Perm b):absI a=absI b:=by
  induction h with
  | nil=>rfl
  | cons x _ ih=>show _+_=_+_; rw [ih]
  | swap x y l=>show _+(_+absI l)=_+(_+absI l); omega
  | trans _ _ i1 i2=>rw [i1,i2]
theorem nf_fv (n:Nat) (h:n<9007199254740992):FV (nf n) ((n:Int)*2^1074):=by
  have:=i2f_fv (n:Int) 1074 rfl (by omega)
  exact this
theorem eI_bound {q:Nat × Nat} (h:ItemOk q):(eI q).natAbs≤2^1098*100:=by
  obtain ⟨-,hc⟩:=fits_vI h.lt h.fits
  have hv:(vI q.1).natAbs≤2^1098:=by
    rcases hc with ⟨h0,-⟩ | ⟨-,h1,h2,h3⟩ | ⟨-,h1,h2,h3,h4,-⟩
    · rw [h0]; exact Nat.zero_le _
    · rw [h3,Int.natAbs_natCast]; exact (rvN_range (by omega) (by omega)).2
    · rw [h4,Int.natAbs_neg,Int.natAbs_natCast]; exact (rvN_range (by omega) (by omega)).2
  unfold eI
  rw [Int.natAbs_mul,Int.natAbs_natCast]
  exact Nat.mul_le_mul hv h.c2
theorem prod_item {q:Nat × Nat} (h:ItemOk q):∃ x X,fmul q.1 (nf q.2)=some x∧FV x X∧∀ M:Rat,-M≤qv (eI q)→qv (eI q)≤M → -(M / 9007199254740992)≤qv X - qv (eI q)∧qv X - qv (eI q)≤M / 9007199254740992:=by
  obtain ⟨hf,hc⟩:=fits_vI h.lt h.fits
  have h2:=h.c2
  have h1:=h.c1
  have hn:=nf_fv q.2 (by omega)
  obtain ⟨T,hT,hT0,-,-⟩:=pow_facts
  have hTi:(2:Int)^1074=((T:Nat):Int):=by rw [hT,Int.natCast_pow]; rfl
  have hz:vI q.1*((q.2:Int)*2^1074)=eI q*((T:Nat):Int):=by unfold eI; rw [hTi,Int.mul_assoc]
  have hb:=eI_bound h
  have hab:(eI q*((T:Nat):Int)).natAbs=(eI q).natAbs*T:=by rw [Int.natAbs_mul,Int.natAbs_natCast]
  have hlog:(eI q*((T:Nat):Int)).natAbs.log2<3164:=by
    rw [hab]
    refine log2_small (Nat.lt_of_le_of_lt (Nat.mul_le_mul_right T hb) ?_) (by omega)
    rw [hT]
    have e:(2:Nat)^3164=2^1098*2^992*2^1074:=by rw [← Nat.pow_add,← Nat.pow_add]
    rw [e]
    refine Nat.mul_lt_mul_of_pos_right (Nat.mul_lt_mul_of_pos_left ?_ (Nat.two_pow_pos _)) (Nat.two_pow_pos _)
    exact Nat.lt_of_lt_of_le (show 100<2^7 by decide) (Nat.pow_le_pow_right (by decide) (by decide))
  obtain ⟨x,hx,fx⟩:=fmul_fv hf hn (by rw [hz]; exact hlog)
  rw [hz] at fx
  refine ⟨x,_,hx,fx,fun M m1 m2=>?_⟩
  have key:∀ n:Nat,n=0∨2^1050≤n→(qv ((n:Nat):Int)≤M) → -(M / 9007199254740992)≤qv ((rndT 1074 (n*T):Nat):Int) - qv ((n:Nat):Int)∧qv ((rndT 1074 (n*T):Nat):Int) - qv ((n:Nat):Int)≤M / 9007199254740992:=fun n hn hm=>by
    rcases hn with rfl | hn
    · rw [Nat.zero_mul,rndT_zero]
      have e0:qv ((0:Nat):Int)=0:=by unfold qv; simp
      rw [e0] at hm ⊢
      constructor <;> grind
    · have hbig:2^(1074+52)≤n*T:=by
        rw [hT]
        have:=Nat.mul_le_mul_right (2^1074) hn
        rw [← Nat.pow_add] at this
        exact Nat.le_trans (Nat.pow_le_pow_right (by decide) (by decide)) this
      obtain ⟨a,b⟩:=rndT_rel 1074 (n*T) (.inr hbig)
      rw [← hT] at a b
      have a':rndT 1074 (n*T)*9007199254740992≤n*9007199254740993:=by
        refine Nat.le_of_mul_le_mul_right ?_ hT0
        rw [Nat.mul_right_comm,Nat.mul_right_comm n]; exact a
      have b':n*9007199254740991≤rndT 1074 (n*T)*9007199254740992:=by
        refine Nat.le_of_mul_le_mul_right ?_ hT0
        rw [Nat.mul_right_comm n,Nat.mul_right_comm (rndT 1074 (n*T))]; exact b
      have q1:=qv_le (Int.ofNat_le.2 a')
      have q2:=qv_le (Int.ofNat_le.2 b')
      have e:∀ m c:Nat,qv ((m*c:Nat):Int)=qv ((m:Nat):Int)*(c:Rat):=fun m c=>by
        unfold qv; rw [Int.natCast_mul,Rat.intCast_mul,Rat.intCast_natCast,Rat.intCast_natCast]; grind
      rw [e,e] at q1 q2
      have f1:((9007199254740992:Nat):Rat)=9007199254740992:=rfl
      have f2:((9007199254740993:Nat):Rat)=9007199254740993:=rfl
      have f3:((9007199254740991:Nat):Rat)=9007199254740991:=rfl
      rw [f1,f2] at q1
      rw [f1,f3] at q2
      generalize qv ((rndT 1074 (n*T):Nat):Int)=r at *
      generalize qv ((n:Nat):Int)=y at *
      constructor <;> grind
  have hlow:(eI q).natAbs=0∨2^1050≤(eI q).natAbs:=by
    have hv:(vI q.1).natAbs=0∨2^1050≤(vI q.1).natAbs:=by
      rcases hc with ⟨h0,-⟩ | ⟨-,g1,g2,g3⟩ | ⟨-,g1,g2,g3,g4,-⟩
      · left; rw [h0]; rfl
      · right; rw [g3,Int.natAbs_natCast]; exact (rvN_range (by omega) (by omega)).1
      · right; rw [g4,Int.natAbs_neg,Int.natAbs_natCast]; exact (rvN_range (by omega) (by omega)).1
    unfold eI
    rw [Int.natAbs_mul,Int.natAbs_natCast]
    rcases hv with hv | hv
    · left; rw [hv,Nat.zero_mul]
    · right
      have:=Nat.mul_le_mul hv h1
      rwa [Nat.mul_one] at this
  rcases Int.le_total 0 (eI q) with hs | hs
  · obtain ⟨n,hn⟩:=Int.eq_ofNat_of_zero_le hs
    rw [hn,Int.natAbs_natCast] at hlow
    rw [hn] at m2 ⊢
    rw [← Int.natCast_mul,rndI_ofNat]
    exact key n hlow m2
  · obtain ⟨n,hn⟩:=Int.eq_ofNat_of_zero_le (show 0 ≤ -eI q by omega)
    have hn':eI q = -(n:Int):=by omega
    rw [hn',Int.natAbs_neg,Int.natAbs_natCast] at hlow
    rw [hn',qv_neg] at m1
    rw [hn',Int.neg_mul,← Int.natCast_mul,rndI_neg,qv_neg,qv_neg]
    obtain ⟨a,b⟩:=key n hlow (by grind)
    constructor <;> grind
end Go.Proofs.YtllaekopaglolaaGreat
end
/-
  The bins of a sketch,and its summary,plainly: what one more value makes of them.
-/
section
namespace Go.Proofs.YtllaekopaglolaaGreat
open Go.RowKit
open Ieee
set_option exponentiation.threshold 5000
def posB1 (idx:Nat→Option Int) (q:Nat × Nat):Option (Int × Nat):=if 0<vI q.1 then (idx q.1).map fun i=>(i,q.2) else none
def negB1 (idx:Nat→Option Int) (q:Nat × Nat):Option (Int × Nat):=if vI q.1<0 then (idx (negF q.1)).map fun i=>(i,q.2) else none
def posBins (idx:Nat→Option Int) (xs:Items):Bins:=xs.filterMap (posB1 idx)
def negBins (idx:Nat→Option Int) (xs:Items):Bins:=xs.filterMap (negB1 idx)
def zeros:Items→Nat
  | []=>0
  | q :: t=>(if vI q.1=0 then q.2 else 0)+zeros t
def totC:Items→Nat
  | []=>0
  | q :: t=>q.2+totC t
theorem zeros_append (a b:Items):zeros (a++b)=zeros a+zeros b:=by
  induction a with
  | nil=>show zeros b=0+zeros b; omega
  | cons q t ih=>show _+zeros (t++b)=_+zeros t+zeros b; rw [ih]; omega
theorem totC_append (a b:Items):totC (a++b)=totC a+totC b:=by
  induction a with
  | nil=>show totC b=0+totC b; omega
  | cons q t ih=>show _+totC (t++b)=_+totC t+totC b; rw [ih]; omega
theorem posBins_append (idx:Nat→Option Int) (a b:Items):posBins idx (a++b)=posBins idx a++posBins idx b:=List.filterMap_append
theorem negBins_append (idx:Nat→Option Int) (a b:Items):negBins idx (a++b)=negBins idx a++negBins idx b:=List.filterMap_append
def IdxOk (idx:Nat→Option Int):Prop:=∀ v,4517329193108106637≤v→v≤4696837146684686336→∃ i,idx v=some i ∧ -5000≤i∧i≤5000
theorem posB1_in {idx:Nat→Option Int} (hi:IdxOk idx) {q:Nat × Nat} (hq:ItemOk q) {p:Int × Nat} (h:posB1 idx q=some p):-5000≤p.1∧p.1≤5000∧p.2=q.2:=by
  unfold posB1 at h
  split at h
  · rename_i hv
    obtain ⟨-,hc⟩:=fits_vI hq.lt hq.fits
    rcases hc with ⟨h0,-⟩ | ⟨-,h1,h2,-⟩ | ⟨h0,-⟩
    · omega
    · obtain ⟨i,e,a,b⟩:=hi q.1 h1 h2
      rw [e] at h; cases h
      exact ⟨a,b,rfl⟩
    · omega
  · cases h
theorem negB1_in {idx:Nat→Option Int} (hi:IdxOk idx) {q:Nat × Nat} (hq:ItemOk q) {p:Int × Nat} (h:negB1 idx q=some p):-5000≤p.1∧p.1≤5000∧p.2=q.2:=by
  unfold negB1 at h
  split at h
  · rename_i hv
    obtain ⟨-,hc⟩:=fits_vI hq.lt hq.fits
    rcases hc with ⟨h0,-⟩ | ⟨h0,-⟩ | ⟨-,-,h1,h2,-,h4⟩
    · omega
    · omega
    · rw [h4] at h
      obtain ⟨i,e,a,b⟩:=hi _ h1 h2
      rw [e] at h; cases h
      exact ⟨a,b,rfl⟩
  · cases h
theorem bins_ok (f:Nat × Nat→Option (Int × Nat)) {xs:Items} (hx:∀ q∈xs,ItemOk q) (hf:∀ q,ItemOk q→∀ p,f q=some p → -5000≤p.1∧p.1≤5000∧p.2=q.2):InR (xs.filterMap f)∧Pos (xs.filterMap f)∧(xs.filterMap f).length≤xs.length∧tot (xs.filterMap f)≤totC xs:=by
  induction xs with
  | nil=>exact ⟨fun p hp=>(by cases hp),fun p hp=>(by cases hp),Nat.le_refl _,Nat.le_refl _⟩
  | cons q t ih =>
    obtain ⟨i1,i2,i3,i4⟩:=ih (fun q hq=>hx q (List.mem_cons_of_mem _ hq))
    have hq:=hx q List.mem_cons_self
    cases hq2:f q with
    | none =>
      rw [List.filterMap_cons_none hq2]
      exact ⟨i1,i2,by rw [List.length_cons]; omega,by show _≤q.2+totC t; omega⟩
    | some p =>
      obtain ⟨a,b,c⟩:=hf q hq p hq2
      rw [List.filterMap_cons_some hq2]
      refine ⟨fun r hr=>?_,fun r hr=>?_,by rw [List.length_cons,List.length_cons]; omega,?_⟩
      · rcases List.mem_cons.1 hr with rfl | hr
        · omega
        · exact i1 r hr
      · rcases List.mem_cons.1 hr with rfl | hr
        · have:=hq.c1; omega
        · exact i2 r hr
      · show p.2+tot (t.filterMap f)≤q.2+totC t; omega
theorem posBins_ok {idx:Nat→Option Int} (hi:IdxOk idx) {xs:Items} (hx:∀ q∈xs,ItemOk q):InR (posBins idx xs)∧Pos (posBins idx xs)∧(posBins idx xs).length≤xs.length∧tot (posBins idx xs)≤totC xs :=
  bins_ok _ hx fun _ hq _ h=>posB1_in hi hq h
theorem negBins_ok {idx:Nat→Option Int} (hi:IdxOk idx) {xs:Items} (hx:∀ q∈xs,ItemOk q):InR (negBins idx xs)∧Pos (negBins idx xs)∧(negBins idx xs).length≤xs.length∧tot (negBins idx xs)≤totC xs :=
  bins_ok _ hx fun _ hq _ h=>negB1_in hi hq h
theorem totC_le {xs:Items} (hx:∀ q∈xs,ItemOk q):totC xs≤100*xs.length:=by
  induction xs with
  | nil=>exact Nat.le_refl _
  | cons q t ih =>
    have:=ih (fun q hq=>hx q (List.mem_cons_of_mem _ hq))
    have:=(hx q List.mem_cons_self).c2
    rw [List.length_cons]
    show q.2+totC t≤_; omega
theorem zeros_le (xs:Items):zeros xs≤totC xs:=by
  induction xs with
  | nil=>exact Nat.le_refl _
  | cons q t ih=>show (if _ then q.2 else 0)+zeros t≤q.2+totC t; split <;> omega
def Ends (xs:Items) (lo hi:Nat):Prop :=
  (xs=[]∧lo=9218868437227405312∧hi=18442240474082181120) ∨
  (xs≠[]∧∃ a b,FV lo a∧FV hi b∧(∃ q∈xs,vI q.1=a)∧(∀ q∈xs,a≤vI q.1)∧(∃ q∈xs,vI q.1=b)∧∀ q∈xs,vI q.1≤b)
structure StInv (M:Rat) (xs:Items) (c s k l lo hi:Nat):Prop where
  cnt:c=nf (totC xs)
  sum:KInv s k (sumI xs) M (xs.length:Nat)
  sim:NInv l (sumI xs) M (xs.length:Nat)
  ends:Ends xs lo hi
theorem inf_lt {x:Nat} {a:Int} (h:FV x a):flt x 9218868437227405312=true∧fgt x 18442240474082181120=true:=by
  obtain ⟨-,s,m,i,r,-⟩:=h
  have e1:double.read 9218868437227405312 = .infinity false:=by decide +kernel
  have e2:double.read 18442240474082181120 = .infinity true:=by decide +kernel
  constructor
  · show ((double.read x).order (double.read 9218868437227405312) == some .lt)=true
    rw [r,e1]; rfl
  · show ((double.read x).order (double.read 18442240474082181120) == some .gt)=true
    rw [r,e2]; rfl
theorem ends_step {xs:Items} {lo hi:Nat} (h:Ends xs lo hi) {q:Nat × Nat} (hq:FV q.1 (vI q.1)):Ends (xs++[q]) (if flt q.1 lo=true then q.1 else lo) (if fgt q.1 hi=true then q.1 else hi):=by
  have hmem:∀ r,r∈xs++[q]↔r∈xs∨r=q:=fun r=>by simp
  right
  refine ⟨by simp,?_⟩
  rcases h with ⟨rfl,rfl,rfl⟩ | ⟨hne,a,b,fa,fb,⟨q1,m1,e1⟩,l1,⟨q2,m2,e2⟩,l2⟩
  · obtain ⟨h1,h2⟩:=inf_lt hq
    rw [if_pos h1,if_pos h2]
    exact ⟨vI q.1,vI q.1,hq,hq,⟨q,by simp,rfl⟩,fun r hr=>by simp at hr; subst hr; exact Int.le_refl _,⟨q,by simp,rfl⟩,fun r hr=>by simp at hr; subst hr; exact Int.le_refl _⟩
  · rw [flt_fv hq fa,fgt_fv hq fb]
    refine ⟨if vI q.1<a then vI q.1 else a,if b<vI q.1 then vI q.1 else b,?_,?_,?_,?_,?_,?_⟩
    · by_cases c:vI q.1<a
      · rw [if_pos c,if_pos (by simpa using c)]; exact hq
      · rw [if_neg c,if_neg (by simpa using c)]; exact fa
    · by_cases c:b<vI q.1
      · rw [if_pos c,if_pos (by simpa using c)]; exact hq
      · rw [if_neg c,if_neg (by simpa using c)]; exact fb
    · by_cases c:vI q.1<a
      · rw [if_pos c]; exact ⟨q,(hmem q).2 (.inr rfl),rfl⟩
      · rw [if_neg c]; exact ⟨q1,(hmem q1).2 (.inl m1),e1⟩
    · intro r hr
      rcases (hmem r).1 hr with hr | rfl
      · have:=l1 r hr; split <;> omega
      · split <;> omega
    · by_cases c:b<vI q.1
      · rw [if_pos c]; exact ⟨q,(hmem q).2 (.inr rfl),rfl⟩
      · rw [if_neg c]; exact ⟨q2,(hmem q2).2 (.inl m2),e2⟩
    · intro r hr
      rcases (hmem r).1 hr with hr | rfl
      · have:=l2 r hr; split <;> omega
      · split <;> omega
theorem qv_zero:qv 0=0:=by unfold qv; simp
theorem stInv_nil {M:Rat} (h0:0≤M) (h1:M≤1099511627776):StInv M [] 0 0 0 0 9218868437227405312 18442240474082181120:=by
  have e:qv (sumI [])=0:=qv_zero
  have z:((([]:Items).length:Nat):Rat)=0:=rfl
  refine ⟨nf_zero.symm,⟨h0,h1,by rw [z]; grind,by rw [z]; grind,by rw [e]; grind,by rw [e]; grind,0,0,fv_zero,fv_zero,?_,?_,?_,?_⟩,⟨h0,h1,by rw [z]; grind,by rw [z]; grind,by rw [e]; grind,by rw [e]; grind,0,fv_zero,?_,?_⟩,.inl ⟨rfl,rfl,rfl⟩⟩
  all_goals (first | rw [e,z,qv_zero] | rw [qv_zero])
  all_goals grind
theorem stInv_step {M:Rat} {xs:Items} {c s k l lo hi:Nat} (h:StInv M xs c s k l lo hi) {q:Nat × Nat} (hq:ItemOk q) (hM:qv (absI (xs++[q]))≤M) (hl:xs.length<900) (ht:totC xs<1000000) :
    ∃ c' x s' k' l',fadd c (nf q.2)=some c'∧fmul q.1 (nf q.2)=some x∧kahF s k x=some (s',k')∧fadd l x=some l'∧StInv M (xs++[q]) c' s' k' l' (if flt q.1 lo=true then q.1 else lo) (if fgt q.1 hi=true then q.1 else hi):=by
  obtain ⟨h1,h2,h3,h4⟩:=h
  obtain ⟨x,X,hx,fx,hX⟩:=prod_item hq
  have ea:absI (xs++[q])=absI xs+((eI q).natAbs:Int):=by rw [absI_append]; show _+(_+0)=_; omega
  have es:sumI (xs++[q])=sumI xs+eI q:=by rw [sumI_append]; show _+(_+0)=_; omega
  have hn:=absI_nonneg xs
  have hle:=sumI_le (xs++[q])
  have b1:-M≤qv (eI q):=by
    have h1:=qv_le (show -absI (xs++[q])≤eI q by omega)
    rw [qv_neg] at h1; grind
  have b2:qv (eI q)≤M:=by
    have h1:=qv_le (show eI q≤absI (xs++[q]) by omega)
    grind
  have n1:-M≤qv (sumI xs+eI q):=by
    rw [← es]
    have h1:=qv_le hle.1
    rw [qv_neg] at h1; grind
  have n2:qv (sumI xs+eI q)≤M:=by
    rw [← es]
    have h1:=qv_le hle.2
    grind
  obtain ⟨x1,x2⟩:=hX M b1 b2
  have hk:((xs.length:Nat):Rat)+1≤1000:=by
    have:((xs.length:Nat):Rat)≤((900:Nat):Rat):=Rat.natCast_le_natCast.2 (by omega)
    have e:((900:Nat):Rat)=900:=rfl
    rw [e] at this; grind
  obtain ⟨s',k',hk',i1⟩:=kah_step h2 fx x1 x2 b1 b2 n1 n2 hk
  obtain ⟨l',hl',i2⟩:=add_step h3 fx x1 x2 b1 b2 n1 n2 hk
  have el:(((xs++[q]).length:Nat):Rat)=((xs.length:Nat):Rat)+1:=by rw [List.length_append]; exact Rat.natCast_add _ _
  have hcc:=hq.c2
  refine ⟨nf (totC xs+q.2),x,s',k',l',by rw [h1]; exact nf_add _ _ (by omega),hx,hk',hl',?_,?_,?_,ends_step h4 (fits_vI hq.lt hq.fits).1⟩
  · rw [totC_append]; rfl
  · rw [es,el]; exact i1
  · rw [es,el]; exact i2
end Go.Proofs.YtllaekopaglolaaGreat
end
/-
  A value is added to a sketch with its summary: what the sketch is then.
-/
section
namespace Go.Proofs.YtllaekopaglolaaGreat
open Go.RowKit
structure Bnd (mn mx:Nat):Prop where
  p:posB mn=true
  f:finB mx=true
  lo:flt mn 4517329193108106637=true
  hi:fgt mx 4696837146684686336=true
theorem Bnd.vals {mn mx:Nat} (h:Bnd mn mx):∃ A B:Int,FV mn A∧FV mx B∧0<A∧A<((rvN 4517329193108106637:Nat):Int)∧((rvN 4696837146684686336:Nat):Int)<B:=by
  obtain ⟨a,b⟩:=posB_is h.p
  obtain ⟨s,hf,-⟩:=finB_fv h.f
  have hm:=fv_rv a (show mn<9214364837600034816 by omega)
  have f1:=fv_rv (x:=4517329193108106637) (by decide) (by decide)
  have f2:=fv_rv (x:=4696837146684686336) (by decide) (by decide)
  have hl:=h.lo
  have hh:=h.hi
  rw [flt_fv hm f1,decide_eq_true_eq] at hl
  rw [fgt_fv hf f2,decide_eq_true_eq] at hh
  refine ⟨_,_,hm,hf,?_,hl,hh⟩
  have:=rvN_rung a
  have h0:rungV mn≠0:=fun e=>by have:=rungV_zero.1 e; omega
  omega
theorem bnd_pos {mn mx:Nat} (h:Bnd mn mx) {q:Nat × Nat} (hq:ItemOk q) (hv:0<vI q.1):fgt q.1 mn=true∧fgt q.1 mx=false:=by
  obtain ⟨A,B,fa,fb,a0,a1,b1⟩:=h.vals
  obtain ⟨hf,hc⟩:=fits_vI hq.lt hq.fits
  rcases hc with ⟨h0,-⟩ | ⟨-,h1,h2,h3⟩ | ⟨h0,-⟩
  · omega
  · have m1:=rvN_mono (show 4503599627370496≤4517329193108106637 by decide) h1
    have m2:=rvN_mono (show 4503599627370496≤q.1 by omega) h2
    rw [fgt_fv hf fa,fgt_fv hf fb]
    exact ⟨decide_eq_true (by omega),decide_eq_false (by omega)⟩
  · omega
theorem bnd_neg {mn mx:Nat} (h:Bnd mn mx) {q:Nat × Nat} (hq:ItemOk q) (hv:vI q.1<0):fgt q.1 mn=false∧flt q.1 (negF mn)=true∧flt q.1 (negF mx)=false:=by
  obtain ⟨A,B,fa,fb,a0,a1,b1⟩:=h.vals
  obtain ⟨hf,hc⟩:=fits_vI hq.lt hq.fits
  rcases hc with ⟨h0,-⟩ | ⟨h0,-⟩ | ⟨-,-,h1,h2,h3,-⟩
  · omega
  · omega
  · have m1:=rvN_mono (show 4503599627370496≤4517329193108106637 by decide) h1
    have m2:=rvN_mono (show 4503599627370496≤q.1 - 9223372036854775808 by omega) h2
    rw [fgt_fv hf fa,flt_fv hf (negF_fv fa),flt_fv hf (negF_fv fb)]
    exact ⟨decide_eq_false (by omega),decide_eq_true (by omega),decide_eq_false (by omega)⟩
theorem bnd_zero {mn mx:Nat} (h:Bnd mn mx) {q:Nat × Nat} (hq:ItemOk q) (hv:vI q.1=0):fgt q.1 mn=false∧flt q.1 (negF mn)=false:=by
  obtain ⟨A,B,fa,fb,a0,a1,b1⟩:=h.vals
  obtain ⟨hf,-⟩:=fits_vI hq.lt hq.fits
  rw [fgt_fv hf fa,flt_fv hf (negF_fv fa)]
  exact ⟨decide_eq_false (by omega),decide_eq_false (by omega)⟩
def DDAfter {kind:Int} (K:StoreKind kind) (tP:TypeId) (most:Int) (ps ns:Bins) (z:Nat) (SP SN:Nat→Prop) (pd pm pp pn:Nat) (w w1:World):Prop :=
  ∃ SP' SN',w1.heap[pd]?=some (.cells #[.iface tP (.pointer (some ⟨pm,0,none⟩)),.iface K.T (.pointer (some ⟨pp,0,none⟩)),.iface K.T (.pointer (some ⟨pn,0,none⟩)),.float .f64 (nf z)] 108 (0,0)) ∧
    K.St most ps SP' pp w1∧K.St most ns SN' pn w1∧Fr (fun b=>b=pd∨SP b∨SN b) w w1∧(∀ b,SP' b→SP b∨w.heap.size≤b)∧(∀ b,SN' b→SN b∨w.heap.size≤b)∧∀ b,SP' b→¬ SN' b
section
variable {kind mk:Int} {K:StoreKind kind} {of_:Nat→Option (Nat × Nat × Nat × Nat × Nat)} {acc:Nat→Option Nat} {idx:Nat→Nat→Nat→Option Int} {lower:Nat→Nat→Int→Option Nat} {value:Nat→Nat→Nat→Int→Option Nat} (M:MapKind mk of_ acc idx lower value)
theorem ddAdd_any {most:Int} {g off mult mn mx c s k l lo hi pe pd pt pm pp pn:Nat} {xs:Items} {SP SN:Nat→Prop} {w:World}
   (h:Sk K M.tP M.t most g off mult mn mx (posBins (idx off mult) xs) (negBins (idx off mult) xs) (zeros xs) c s k l lo hi SP SN pe pd pt pm pp pn w) (hk:knownB kind most=true) (hb:Bnd mn mx) (hi2:IdxOk (idx off mult)) (hx:∀ q∈xs,ItemOk q) (hl:xs.length<900)
   {q:Nat × Nat} (hq:ItemOk q) :
    Calls Tryz.prog 61 #[.pointer (some ⟨pd,0,none⟩),.float .f64 q.1,.float .f64 (nf q.2)] w fun e w'=>e = .returned .nilIface ∧
      DDAfter K M.tP most (posBins (idx off mult) (xs++[q])) (negBins (idx off mult) (xs++[q])) (zeros (xs++[q])) SP SN pd pm pp pn w w':=by
  obtain ⟨p1,p2,p3,p4⟩:=posBins_ok hi2 hx
  obtain ⟨n1,n2,n3,n4⟩:=negBins_ok hi2 hx
  have ht:=totC_le hx
  have hz:=zeros_le xs
  have hc1:=hq.c1
  have hc2:=hq.c2
  have hn0:flt (nf q.2) 0=false:=by
    have:=nf_order q.2 0 (by omega) (by decide)
    rw [nf_zero] at this
    unfold flt
    rw [this,Nat.compare_eq_gt.2 (by omega)]; rfl
  obtain ⟨hf,hc⟩:=fits_vI hq.lt hq.fits
  have ltp:=K.lt most _ SP pp w h.sp
  have ltn:=K.lt most _ SN pn w h.sn
  have hone:zeros [q]=if vI q.1=0 then q.2 else 0:=by show (if _ then _ else _)+0=_; rw [Nat.add_zero]
  rw [posBins_append,negBins_append,zeros_append,hone]
  rcases hc with ⟨h0,-⟩ | ⟨h0,h1,h2,h3⟩ | ⟨h0,-,h1,h2,h3,h4⟩
  · have ep:posBins (idx off mult) [q]=[]:=by unfold posBins posB1; simp [h0]
    have en:negBins (idx off mult) [q]=[]:=by unfold negBins negB1; simp [h0]
    rw [ep,en,if_pos h0,List.append_nil,List.append_nil]
    obtain ⟨g1,g2⟩:=bnd_zero hb hq h0
    refine (ddAddZ_any M pd pm pp pn g off mult mn mx (zeros xs) q.1 q.2 w h.bd h.bm (by omega) hn0 g1 g2 (isNum_fv hf)).mono ?_
    rintro e w' ⟨rfl,rfl⟩
    have hfr:Fr (fun b=>b=pd) w (w.setCell ⟨pd,3,none⟩ (.float .f64 (nf (zeros xs+q.2)))):=(show Fr (fun b=>b=pd) w w from Fr.refl _ _).setCell (p:=⟨pd,3,none⟩) (fun _=>rfl) _
    refine ⟨rfl,SP,SN,(heap_setCell_same w pd 3 _ _ _ h.bd).trans rfl,K.fr most _ SP pp _ w _ h.sp hfr (fun b hb=>(h.own b (.inl hb)).2.1),K.fr most _ SN pn _ w _ h.sn hfr (fun b hb=>(h.own b (.inr hb)).2.1),hfr.mono (fun _ _ h=>.inl h),fun b hb=>.inl hb,fun b hb=>.inl hb,h.dj⟩
  · obtain ⟨i,ei,i0,i1⟩:=hi2 q.1 h1 h2
    have ep:posBins (idx off mult) [q]=[(i,q.2)]:=by unfold posBins posB1; simp [h0,ei]
    have en:negBins (idx off mult) [q]=[]:=by unfold negBins negB1; simp; omega
    rw [ep,en,if_neg (by omega),List.append_nil,Nat.add_zero]
    obtain ⟨g1,g2⟩:=bnd_pos hb hq h0
    refine (ddAddP_any M most pd pm pp pn g off mult mn mx (zeros xs) q.1 q.2 i _ SP w h.bd h.bm h.sp hk p1 p2 (by omega) (by omega) (by omega) (by omega) (by omega) hn0 g1 g2 ei).mono ?_
    rintro e w' ⟨rfl,S',hs,hfr,hS⟩
    refine ⟨rfl,S',SN,hfr.heap h.bd (fun hh=>(h.own pd (.inl hh)).2.1 rfl),hs,K.fr most _ SN pn _ w _ h.sn hfr (fun b hb hh=>h.dj b hh hb),hfr.mono (fun _ _ h=>.inr (.inl h)),hS,fun b hb=>.inl hb,fun b hb hh=>?_⟩
    rcases hS b hb with h9 | h9
    · exact h.dj b h9 hh
    · have:=ltn b hh; omega
  · obtain ⟨i,ei,i0,i1⟩:=hi2 (q.1 - 9223372036854775808) h1 h2
    rw [← h4] at ei
    have ep:posBins (idx off mult) [q]=[]:=by unfold posBins posB1; simp; omega
    have en:negBins (idx off mult) [q]=[(i,q.2)]:=by unfold negBins negB1; simp [h0,ei]
    rw [ep,en,if_neg (by omega),List.append_nil,Nat.add_zero]
    obtain ⟨g1,g2,g3⟩:=bnd_neg hb hq h0
    refine (ddAddN_any M most pd pm pp pn g off mult mn mx (zeros xs) q.1 q.2 i _ SN w h.bd h.bm h.sn hk n1 n2 (by omega) (by omega) (by omega) (by omega) (by omega) hn0 g1 g2 g3 ei).mono ?_
    rintro e w' ⟨rfl,S',hs,hfr,hS⟩
    refine ⟨rfl,SP,S',hfr.heap h.bd (fun hh=>(h.own pd (.inr hh)).2.1 rfl),K.fr most _ SP pp _ w _ h.sp hfr (fun b hb hh=>h.dj b hb hh),hs,hfr.mono (fun _ _ h=>.inr (.inr h)),fun b hb=>.inl hb,hS,fun b hb hh=>?_⟩
    rcases hS b hh with h9 | h9
    · exact h.dj b hb h9
    · have:=ltp b hb; omega
def Holds {kind:Int} (K:StoreKind kind) (tP t:TypeId) (idx:Nat→Option Int) (most:Int) (g off mult mn mx:Nat) (B:Rat) (xs:Items) (SP SN:Nat→Prop) (pe pd pt pm pp pn:Nat) (w:World):Prop :=
  ∃ c s k l lo hi,Sk K tP t most g off mult mn mx (posBins idx xs) (negBins idx xs) (zeros xs) c s k l lo hi SP SN pe pd pt pm pp pn w∧StInv B xs c s k l lo hi
def EsAdded {kind:Int} (K:StoreKind kind) (tP t:TypeId) (idx:Nat→Option Int) (most:Int) (g off mult mn mx:Nat) (B:Rat) (xs:Items) (SP SN:Nat→Prop) (pe pd pt pm pp pn:Nat) (w:World) (e:Ending) (w':World):Prop :=
  e = .returned .nilIface∧∃ SP' SN',Holds K tP t idx most g off mult mn mx B xs SP' SN' pe pd pt pm pp pn w'∧Fr (fun b=>b=pd∨b=pt∨SP b∨SN b) w w'∧(∀ b,SP' b→SP b∨w.heap.size≤b)∧∀ b,SN' b→SN b∨w.heap.size≤b
set_option maxRecDepth 100000 in
set_option maxHeartbeats 1000000 in
theorem esAdd_any {most:Int} {g off mult mn mx pe pd pt pm pp pn:Nat} {B:Rat} {xs:Items} {SP SN:Nat→Prop} {w:World}
   (h:Holds K M.tP M.t (idx off mult) most g off mult mn mx B xs SP SN pe pd pt pm pp pn w) (hk:knownB kind most=true) (hb:Bnd mn mx) (hi2:IdxOk (idx off mult)) (hx:∀ q∈xs,ItemOk q) (hl:xs.length<900)
   {q:Nat × Nat} (hq:ItemOk q) (hB:qv (absI (xs++[q]))≤B) :
    Calls Tryz.prog 38 #[.pointer (some ⟨pe,0,none⟩),.float .f64 q.1,.float .f64 (nf q.2)] w fun e w' =>
      EsAdded K M.tP M.t (idx off mult) most g off mult mn mx B (xs++[q]) SP SN pe pd pt pm pp pn w e w':=by
  obtain ⟨c,s,k,l,lo,hi,hs,hv⟩:=h
  have ht:=totC_le hx
  obtain ⟨c',x,s',k',l',a1,a2,a3,a4,a5⟩:=stInv_step hv hq hB hl (by omega)
  have HA:=ddAdd_any M hs hk hb hi2 hx hl hq
  have e0:=cell_of_row _ _ 0 _ _ _ hs.be
  have e1:=cell_of_row _ _ 1 _ _ _ hs.be
  have k0:(FloatKind.f64.format.order (nf q.2) 0 == some .eq)=false:=by
    have h1:=nf_order q.2 0 (by have:=hq.c2; omega) (by decide)
    rw [nf_zero] at h1
    rw [h1,Nat.compare_eq_gt.2 (by have:=hq.c1; omega)]; rfl
  have HS:=Lib.hid hs
  have H5:=Lib.hid a5
  have HST:∀ w1,St6 w1 pt c s k l lo hi→Calls Tryz.prog 62 #[.pointer (some ⟨pt,0,none⟩),.float .f64 q.1,.float .f64 (nf q.2)] w1 fun e w'=>e = .returned (.tuple #[])∧St6 w' pt c' s' k' l' (if flt q.1 lo=true then q.1 else lo) (if fgt q.1 hi=true then q.1 else hi)∧Fr (fun b=>b=pt) w1 w' :=
    fun w1 h6=>addStat_any pt c s k l lo hi q.1 (nf q.2) x c' s' k' l' w1 h6 a1 a2 a3 a4
  obtain ⟨v,n⟩:=q
  dsimp only at *
  obtain ⟨nc,hnc⟩:∃ y,y=nf n:=⟨_,rfl⟩
  rw [← hnc] at HA HST k0 ⊢
  have nt:pt≠pd:=fun e=>by have h1:=hs.bt; rw [e] at h1; have h2:=hs.bd; rw [show w.heap[pd]?=_ from h1] at h2; cases h2
  have net:pt≠pe:=fun e=>by have h1:=hs.bt; rw [e] at h1; have h2:=hs.be; rw [show w.heap[pe]?=_ from h1] at h2; cases h2
  have ned:pe≠pd:=fun e=>by have h1:=hs.be; rw [e] at h1; have h2:=hs.bd; rw [h1] at h2; cases h2
  have NE:=Lib.hid (And.intro nt (And.intro net ned))
  clear hs hv a1 a2 a3 a4 a5 hk hb hi2 hx hl hq hB ht hnc nt net ned
  go_enter Tryz.func38,Tryz.ntmps38
  go_wp2_with fail
  refine HA.mono ?_
  clear HA
  rintro e w1 ⟨rfl,SP',SN',b1,b2,b3,b4,b5,b6,b7⟩
  have hnot:∀ b,b<w.heap.size→b≠pd→¬ SP b→¬ SN b→¬ (b=pd∨SP b∨SN b):=fun b _ h1 h2 h3 h=>h.elim h1 (fun h=>h.elim h2 h3)
  have hpe:¬ (pe=pd∨SP pe∨SN pe):=fun h=>h.elim NE.out.2.2 (fun h=>(HS.out.own pe h).1 rfl)
  have hpt:¬ (pt=pd∨SP pt∨SN pt):=fun h=>h.elim NE.out.1 (fun h=>(HS.out.own pt h).2.2.1 rfl)
  have hpm:¬ (pm=pd∨SP pm∨SN pm):=fun h=>h.elim HS.out.nm.2.1 (fun h=>(HS.out.own pm h).2.2.2 rfl)
  have e0':=b4.cell e0 hpe
  have e1':=b4.cell e1 hpe
  have t1:St6 w1 pt c s k l lo hi:=b4.heap HS.out.bt hpt
  have HT:=HST w1 t1
  have HBE:=Lib.hid (b4.heap HS.out.be hpe)
  have HBM:Hid (Map5 M.t w1 pm g off mult mn mx):=b4.heap HS.out.bm hpm
  have H1:=Lib.hid b1
  have H2:=Lib.hid b2
  have H3:=Lib.hid b3
  have H4:=Lib.hid b4
  have H6:=Lib.hid b5
  have H7:=Lib.hid b6
  have H8:=Lib.hid b7
  clear b1 b2 b3 b4 b5 b6 b7 e0 e1 t1 HST hpe hpt hpm hnot
  go_wp2_with (go_at_call 62; (with_reducible refine HT.mono ?_); rintro e w2 ⟨rfl,g6,gf⟩; have G6:=Lib.hid g6; have GF:=Lib.hid gf; clear g6 gf HT)
  go_ret
  have lpe:=lt_of_block HS.out.be
  have lpd:=lt_of_block HS.out.bd
  have lpt:=lt_of_block HS.out.bt
  have lpm:=lt_of_block HS.out.bm
  have ownS:∀ b,SP' b∨SN' b→b≠pe∧b≠pd∧b≠pt∧b≠pm:=fun b hb=>by
    have h9:(SP b∨SN b)∨w.heap.size≤b:=hb.elim (fun h=>(H6.out b h).elim (fun h=>.inl (.inl h)) .inr) (fun h=>(H7.out b h).elim (fun h=>.inl (.inr h)) .inr)
    rcases h9 with h9 | h9
    · exact HS.out.own b h9
    · omega
  refine ⟨rfl,SP',SN',⟨c',s',k',l',_,_,⟨GF.out.heap HBE.out (Ne.symm NE.out.2.1),GF.out.heap H1.out (Ne.symm NE.out.1),G6.out,GF.out.heap HBM.out (fun h=>HS.out.nm.2.2 h),K.fr most _ SP' pp _ w1 w2 H2.out GF.out (fun b hb h=>(ownS b (.inl hb)).2.2.1 h),K.fr most _ SN' pn _ w1 w2 H3.out GF.out (fun b hb h=>(ownS b (.inr hb)).2.2.1 h),H8.out,ownS,HS.out.nm⟩,H5.out⟩,H4.out.trans GF.out (fun b _ h=>?_) (fun b _ h=>.inr (.inl h)),H6.out,H7.out⟩
  rcases h with h | h | h
  · exact .inl h
  · exact .inr (.inr (.inl h))
  · exact .inr (.inr (.inr h))
end
end Go.Proofs.YtllaekopaglolaaGreat
end
