/-
  The bins of a sketch,and its summary,plainly: what one more value makes of them.
-/
import Derived.Test.YtllaekopaglolaaGreatHBD
import Derived.Test.YtllaekopaglolaaGreatHBB
section
namespace Go.Proofs.YtllaekopaglolaaGreat
open Go.RowKit
open Ieee
set_option exponentiation.threshold 5000
def zG3 (idx:Nat→Option Int) (q:Nat × Nat):Option (Int × Nat):=if 0<vI q.1 then (idx q.1).map fun i=>(i,q.2) else none
def zHC (idx:Nat→Option Int) (q:Nat × Nat):Option (Int × Nat):=if vI q.1<0 then (idx (negF q.1)).map fun i=>(i,q.2) else none
def zAP (idx:Nat→Option Int) (xs:Items):Bins:=xs.filterMap (zG3 idx)
def zAQ (idx:Nat→Option Int) (xs:Items):Bins:=xs.filterMap (zHC idx)
def zAd:Items→Nat
  | []=>0
  | q :: t=>(if vI q.1=0 then q.2 else 0)+zAd t
def totC:Items→Nat
  | []=>0
  | q :: t=>q.2+totC t
theorem zC5 (a b:Items):zAd (a++b)=zAd a+zAd b:=by
  induction a with
  | nil=>show zAd b=0+zAd b; omega
  | cons q t ih=>show _+zAd (t++b)=_+zAd t+zAd b; rw [ih]; omega
theorem zBc (a b:Items):totC (a++b)=totC a+totC b:=by
  induction a with
  | nil=>show totC b=0+totC b; omega
  | cons q t ih=>show _+totC (t++b)=_+totC t+totC b; rw [ih]; omega
theorem zEc (idx:Nat→Option Int) (a b:Items):zAP idx (a++b)=zAP idx a++zAP idx b:=List.filterMap_append
theorem zEd (idx:Nat→Option Int) (a b:Items):zAQ idx (a++b)=zAQ idx a++zAQ idx b:=List.filterMap_append
def zC4 (idx:Nat→Option Int):Prop:=∀ v,4517329193108106637≤v→v≤4696837146684686336→∃ i,idx v=some i ∧ -5000≤i∧i≤5000
theorem zT9 {idx:Nat→Option Int} (hi:zC4 idx) {q:Nat × Nat} (hq:zAU q) {p:Int × Nat} (h:zG3 idx q=some p):-5000≤p.1∧p.1≤5000∧p.2=q.2:=by
  unfold zG3 at h
  split at h
  · rename_i hv
    obtain ⟨-,hc⟩:=zAx hq.lt hq.fits
    rcases hc with ⟨h0,-⟩ | ⟨-,h1,h2,-⟩ | ⟨h0,-⟩
    · omega
    · obtain ⟨i,e,a,b⟩:=hi q.1 h1 h2
      rw [e] at h; cases h
      exact ⟨a,b,rfl⟩
    · omega
  · cases h
theorem zUI {idx:Nat→Option Int} (hi:zC4 idx) {q:Nat × Nat} (hq:zAU q) {p:Int × Nat} (h:zHC idx q=some p):-5000≤p.1∧p.1≤5000∧p.2=q.2:=by
  unfold zHC at h
  split at h
  · rename_i hv
    obtain ⟨-,hc⟩:=zAx hq.lt hq.fits
    rcases hc with ⟨h0,-⟩ | ⟨h0,-⟩ | ⟨-,-,h1,h2,-,h4⟩
    · omega
    · omega
    · rw [h4] at h
      obtain ⟨i,e,a,b⟩:=hi _ h1 h2
      rw [e] at h; cases h
      exact ⟨a,b,rfl⟩
  · cases h
theorem zTM (f:Nat × Nat→Option (Int × Nat)) {xs:Items} (hx:∀ q∈xs,zAU q) (hf:∀ q,zAU q→∀ p,f q=some p → -5000≤p.1∧p.1≤5000∧p.2=q.2):InR (xs.filterMap f)∧Pos (xs.filterMap f)∧(xs.filterMap f).length≤xs.length∧tot (xs.filterMap f)≤totC xs:=by
  induction xs with
  | nil=>exact ⟨fun p hp=>(by cases hp),fun p hp=>(by cases hp),Nat.le_refl _,Nat.le_refl _⟩
  | cons q t ih =>
    obtain ⟨i1,i2,i3,i4⟩:=ih (fun q hq=>hx q (List.mem_cons_of_mem _ hq))
    have hq:=hx q List.mem_cons_self
    cases hq2:f q with
    | none =>
      rw [List.filterMap_cons_none hq2]
      exact ⟨i1,i2,by rw [List.length_cons]; omega,by show _≤q.2+totC t; omega⟩
    | some p =>
      obtain ⟨a,b,c⟩:=hf q hq p hq2
      rw [List.filterMap_cons_some hq2]
      refine ⟨fun r hr=>?_,fun r hr=>?_,by rw [List.length_cons,List.length_cons]; omega,?_⟩
      · rcases List.mem_cons.1 hr with rfl | hr
        · omega
        · exact i1 r hr
      · rcases List.mem_cons.1 hr with rfl | hr
        · have:=hq.c1; omega
        · exact i2 r hr
      · show p.2+tot (t.filterMap f)≤q.2+totC t; omega
theorem zCj {idx:Nat→Option Int} (hi:zC4 idx) {xs:Items} (hx:∀ q∈xs,zAU q):InR (zAP idx xs)∧Pos (zAP idx xs)∧(zAP idx xs).length≤xs.length∧tot (zAP idx xs)≤totC xs :=
  zTM _ hx fun _ hq _ h=>zT9 hi hq h
theorem zDO {idx:Nat→Option Int} (hi:zC4 idx) {xs:Items} (hx:∀ q∈xs,zAU q):InR (zAQ idx xs)∧Pos (zAQ idx xs)∧(zAQ idx xs).length≤xs.length∧tot (zAQ idx xs)≤totC xs :=
  zTM _ hx fun _ hq _ h=>zUI hi hq h
theorem zDa {xs:Items} (hx:∀ q∈xs,zAU q):totC xs≤100*xs.length:=by
  induction xs with
  | nil=>exact Nat.le_refl _
  | cons q t ih =>
    have:=ih (fun q hq=>hx q (List.mem_cons_of_mem _ hq))
    have:=(hx q List.mem_cons_self).c2
    rw [List.length_cons]
    show q.2+totC t≤_; omega
theorem zGY (xs:Items):zAd xs≤totC xs:=by
  induction xs with
  | nil=>exact Nat.le_refl _
  | cons q t ih=>show (if _ then q.2 else 0)+zAd t≤q.2+totC t; split <;> omega
def Ends (xs:Items) (lo hi:Nat):Prop :=
  (xs=[]∧lo=9218868437227405312∧hi=18442240474082181120) ∨
  (xs≠[]∧∃ a b,FV lo a∧FV hi b∧(∃ q∈xs,vI q.1=a)∧(∀ q∈xs,a≤vI q.1)∧(∃ q∈xs,vI q.1=b)∧∀ q∈xs,vI q.1≤b)
structure zGX (M:Rat) (xs:Items) (c s k l lo hi:Nat):Prop where
  cnt:c=nf (totC xs)
  sum:KInv s k (sumI xs) M (xs.length:Nat)
  sim:NInv l (sumI xs) M (xs.length:Nat)
  ends:Ends xs lo hi
theorem zW2 {x:Nat} {a:Int} (h:FV x a):flt x 9218868437227405312=true∧fgt x 18442240474082181120=true:=by
  obtain ⟨-,s,m,i,r,-⟩:=h
  have e1:double.read 9218868437227405312 = .infinity false:=by decide +kernel
  have e2:double.read 18442240474082181120 = .infinity true:=by decide +kernel
  constructor
  · show ((double.read x).order (double.read 9218868437227405312) == some .lt)=true
    rw [r,e1]; rfl
  · show ((double.read x).order (double.read 18442240474082181120) == some .gt)=true
    rw [r,e2]; rfl
theorem zSy {xs:Items} {lo hi:Nat} (h:Ends xs lo hi) {q:Nat × Nat} (hq:FV q.1 (vI q.1)):Ends (xs++[q]) (if flt q.1 lo=true then q.1 else lo) (if fgt q.1 hi=true then q.1 else hi):=by
  have hmem:∀ r,r∈xs++[q]↔r∈xs∨r=q:=fun r=>by simp
  right
  refine ⟨by simp,?_⟩
  rcases h with ⟨rfl,rfl,rfl⟩ | ⟨hne,a,b,fa,fb,⟨q1,m1,e1⟩,l1,⟨q2,m2,e2⟩,l2⟩
  · obtain ⟨h1,h2⟩:=zW2 hq
    rw [if_pos h1,if_pos h2]
    exact ⟨vI q.1,vI q.1,hq,hq,⟨q,by simp,rfl⟩,fun r hr=>by simp at hr; subst hr; exact Int.le_refl _,⟨q,by simp,rfl⟩,fun r hr=>by simp at hr; subst hr; exact Int.le_refl _⟩
  · rw [zBD hq fa,zBa hq fb]
    refine ⟨if vI q.1<a then vI q.1 else a,if b<vI q.1 then vI q.1 else b,?_,?_,?_,?_,?_,?_⟩
    · by_cases c:vI q.1<a
      · rw [if_pos c,if_pos (by simpa using c)]; exact hq
      · rw [if_neg c,if_neg (by simpa using c)]; exact fa
    · by_cases c:b<vI q.1
      · rw [if_pos c,if_pos (by simpa using c)]; exact hq
      · rw [if_neg c,if_neg (by simpa using c)]; exact fb
    · by_cases c:vI q.1<a
      · rw [if_pos c]; exact ⟨q,(hmem q).2 (.inr rfl),rfl⟩
      · rw [if_neg c]; exact ⟨q1,(hmem q1).2 (.inl m1),e1⟩
    · intro r hr
      rcases (hmem r).1 hr with hr | rfl
      · have:=l1 r hr; split <;> omega
      · split <;> omega
    · by_cases c:b<vI q.1
      · rw [if_pos c]; exact ⟨q,(hmem q).2 (.inr rfl),rfl⟩
      · rw [if_neg c]; exact ⟨q2,(hmem q2).2 (.inl m2),e2⟩
    · intro r hr
      rcases (hmem r).1 hr with hr | rfl
      · have:=l2 r hr; split <;> omega
      · split <;> omega
theorem zCq:qv 0=0:=by unfold qv; simp
theorem zRQ {M:Rat} (h0:0≤M) (h1:M≤1099511627776):zGX M [] 0 0 0 0 9218868437227405312 18442240474082181120:=by
  have e:qv (sumI [])=0:=zCq
  have z:((([]:Items).length:Nat):Rat)=0:=rfl
  refine ⟨zAp.symm,⟨h0,h1,by rw [z]; grind,by rw [z]; grind,by rw [e]; grind,by rw [e]; grind,0,0,zA0,zA0,?_,?_,?_,?_⟩,⟨h0,h1,by rw [z]; grind,by rw [z]; grind,by rw [e]; grind,by rw [e]; grind,0,zA0,?_,?_⟩,.inl ⟨rfl,rfl,rfl⟩⟩
  all_goals (first | rw [e,z,zCq] | rw [zCq])
  all_goals grind
theorem zO1 {M:Rat} {xs:Items} {c s k l lo hi:Nat} (h:zGX M xs c s k l lo hi) {q:Nat × Nat} (hq:zAU q) (hM:qv (absI (xs++[q]))≤M) (hl:xs.length<900) (ht:totC xs<1000000) :
    ∃ c' x s' k' l',fadd c (nf q.2)=some c'∧fmul q.1 (nf q.2)=some x∧kahF s k x=some (s',k')∧fadd l x=some l'∧zGX M (xs++[q]) c' s' k' l' (if flt q.1 lo=true then q.1 else lo) (if fgt q.1 hi=true then q.1 else hi):=by
  obtain ⟨h1,h2,h3,h4⟩:=h
  obtain ⟨x,X,hx,fx,hX⟩:=zG2 hq
  have ea:absI (xs++[q])=absI xs+((eI q).natAbs:Int):=by rw [zC2]; show _+(_+0)=_; omega
  have es:sumI (xs++[q])=sumI xs+eI q:=by rw [zEi]; show _+(_+0)=_; omega
  have hn:=zBk xs
  have hle:=zKR (xs++[q])
  have b1:-M≤qv (eI q):=by
    have h1:=zA9 (show -absI (xs++[q])≤eI q by omega)
    rw [zCr] at h1; grind
  have b2:qv (eI q)≤M:=by
    have h1:=zA9 (show eI q≤absI (xs++[q]) by omega)
    grind
  have n1:-M≤qv (sumI xs+eI q):=by
    rw [← es]
    have h1:=zA9 hle.1
    rw [zCr] at h1; grind
  have n2:qv (sumI xs+eI q)≤M:=by
    rw [← es]
    have h1:=zA9 hle.2
    grind
  obtain ⟨x1,x2⟩:=hX M b1 b2
  have hk:((xs.length:Nat):Rat)+1≤1000:=by
    have:((xs.length:Nat):Rat)≤((900:Nat):Rat):=Rat.natCast_le_natCast.2 (by omega)
    have e:((900:Nat):Rat)=900:=rfl
    rw [e] at this; grind
  obtain ⟨s',k',hk',i1⟩:=zUa h2 fx x1 x2 b1 b2 n1 n2 hk
  obtain ⟨l',hl',i2⟩:=zJB h3 fx x1 x2 b1 b2 n1 n2 hk
  have el:(((xs++[q]).length:Nat):Rat)=((xs.length:Nat):Rat)+1:=by rw [List.length_append]; exact Rat.natCast_add _ _
  have hcc:=hq.c2
  refine ⟨nf (totC xs+q.2),x,s',k',l',by rw [h1]; exact zAz _ _ (by omega),hx,hk',hl',?_,?_,?_,zSy h4 (zAx hq.lt hq.fits).1⟩
  · rw [zBc]; rfl
  · rw [es,el]; exact i1
  · rw [es,el]; exact i2
end Go.Proofs.YtllaekopaglolaaGreat
end
/-
  A value is added to a sketch with its summary: what the sketch is then.
-/
section
namespace Go.Proofs.YtllaekopaglolaaGreat
open Go.RowKit
structure Bnd (mn mx:Nat):Prop where
  p:posB mn=true
  f:finB mx=true
  lo:flt mn 4517329193108106637=true
  hi:fgt mx 4696837146684686336=true
theorem Bnd.vals {mn mx:Nat} (h:Bnd mn mx):∃ A B:Int,FV mn A∧FV mx B∧0<A∧A<((rvN 4517329193108106637:Nat):Int)∧((rvN 4696837146684686336:Nat):Int)<B:=by
  obtain ⟨a,b⟩:=zCN h.p
  obtain ⟨s,hf,-⟩:=zCF h.f
  have hm:=zDP a (show mn<9214364837600034816 by omega)
  have f1:=zDP (x:=4517329193108106637) (by decide) (by decide)
  have f2:=zDP (x:=4696837146684686336) (by decide) (by decide)
  have hl:=h.lo
  have hh:=h.hi
  rw [zBD hm f1,decide_eq_true_eq] at hl
  rw [zBa hf f2,decide_eq_true_eq] at hh
  refine ⟨_,_,hm,hf,?_,hl,hh⟩
  have:=zCT a
  have h0:zAs mn≠0:=fun e=>by have:=zBl.1 e; omega
  omega
theorem zWF {mn mx:Nat} (h:Bnd mn mx) {q:Nat × Nat} (hq:zAU q) (hv:0<vI q.1):fgt q.1 mn=true∧fgt q.1 mx=false:=by
  obtain ⟨A,B,fa,fb,a0,a1,b1⟩:=h.vals
  obtain ⟨hf,hc⟩:=zAx hq.lt hq.fits
  rcases hc with ⟨h0,-⟩ | ⟨-,h1,h2,h3⟩ | ⟨h0,-⟩
  · omega
  · have m1:=zBx (show 4503599627370496≤4517329193108106637 by decide) h1
    have m2:=zBx (show 4503599627370496≤q.1 by omega) h2
    rw [zBa hf fa,zBa hf fb]
    exact ⟨decide_eq_true (by omega),decide_eq_false (by omega)⟩
  · omega
theorem zWG {mn mx:Nat} (h:Bnd mn mx) {q:Nat × Nat} (hq:zAU q) (hv:vI q.1<0):fgt q.1 mn=false∧flt q.1 (negF mn)=true∧flt q.1 (negF mx)=false:=by
  obtain ⟨A,B,fa,fb,a0,a1,b1⟩:=h.vals
  obtain ⟨hf,hc⟩:=zAx hq.lt hq.fits
  rcases hc with ⟨h0,-⟩ | ⟨h0,-⟩ | ⟨-,-,h1,h2,h3,-⟩
  · omega
  · omega
  · have m1:=zBx (show 4503599627370496≤4517329193108106637 by decide) h1
    have m2:=zBx (show 4503599627370496≤q.1 - 9223372036854775808 by omega) h2
    rw [zBa hf fa,zBD hf (zHB fa),zBD hf (zHB fb)]
    exact ⟨decide_eq_false (by omega),decide_eq_true (by omega),decide_eq_false (by omega)⟩
theorem zUz {mn mx:Nat} (h:Bnd mn mx) {q:Nat × Nat} (hq:zAU q) (hv:vI q.1=0):fgt q.1 mn=false∧flt q.1 (negF mn)=false:=by
  obtain ⟨A,B,fa,fb,a0,a1,b1⟩:=h.vals
  obtain ⟨hf,-⟩:=zAx hq.lt hq.fits
  rw [zBa hf fa,zBD hf (zHB fa)]
  exact ⟨decide_eq_false (by omega),decide_eq_false (by omega)⟩
def zWY {kind:Int} (K:zAD kind) (tP:TypeId) (most:Int) (ps ns:Bins) (z:Nat) (SP SN:Nat→Prop) (pd pm pp pn:Nat) (w w1:World):Prop :=
  ∃ SP' SN',w1.heap[pd]?=some (.cells #[.iface tP (.pointer (some ⟨pm,0,none⟩)),.iface K.T (.pointer (some ⟨pp,0,none⟩)),.iface K.T (.pointer (some ⟨pn,0,none⟩)),.float .f64 (nf z)] 108 (0,0)) ∧
    K.St most ps SP' pp w1∧K.St most ns SN' pn w1∧Fr (fun b=>b=pd∨SP b∨SN b) w w1∧(∀ b,SP' b→SP b∨w.heap.size≤b)∧(∀ b,SN' b→SN b∨w.heap.size≤b)∧∀ b,SP' b→¬ SN' b
section
variable {kind mk:Int} {K:zAD kind} {of_:Nat→Option (Nat × Nat × Nat × Nat × Nat)} {acc:Nat→Option Nat} {idx:Nat→Nat→Nat→Option Int} {lower:Nat→Nat→Int→Option Nat} {value:Nat→Nat→Nat→Int→Option Nat} (M:zBK mk of_ acc idx lower value)
theorem zS3 {most:Int} {g off mult mn mx c s k l lo hi pe pd pt pm pp pn:Nat} {xs:Items} {SP SN:Nat→Prop} {w:World}
   (h:Sk K M.tP M.t most g off mult mn mx (zAP (idx off mult) xs) (zAQ (idx off mult) xs) (zAd xs) c s k l lo hi SP SN pe pd pt pm pp pn w) (hk:zBg kind most=true) (hb:Bnd mn mx) (hi2:zC4 (idx off mult)) (hx:∀ q∈xs,zAU q) (hl:xs.length<900)
   {q:Nat × Nat} (hq:zAU q) :
    Calls Tryz.prog 61 #[.pointer (some ⟨pd,0,none⟩),.float .f64 q.1,.float .f64 (nf q.2)] w fun e w'=>e = .returned .nilIface ∧
      zWY K M.tP most (zAP (idx off mult) (xs++[q])) (zAQ (idx off mult) (xs++[q])) (zAd (xs++[q])) SP SN pd pm pp pn w w':=by
  obtain ⟨p1,p2,p3,p4⟩:=zCj hi2 hx
  obtain ⟨n1,n2,n3,n4⟩:=zDO hi2 hx
  have ht:=zDa hx
  have hz:=zGY xs
  have hc1:=hq.c1
  have hc2:=hq.c2
  have hn0:flt (nf q.2) 0=false:=by
    have:=zBn q.2 0 (by omega) (by decide)
    rw [zAp] at this
    unfold flt
    rw [this,Nat.compare_eq_gt.2 (by omega)]; rfl
  obtain ⟨hf,hc⟩:=zAx hq.lt hq.fits
  have ltp:=K.lt most _ SP pp w h.sp
  have ltn:=K.lt most _ SN pn w h.sn
  have hone:zAd [q]=if vI q.1=0 then q.2 else 0:=by show (if _ then _ else _)+0=_; rw [Nat.add_zero]
  rw [zEc,zEd,zC5,hone]
  rcases hc with ⟨h0,-⟩ | ⟨h0,h1,h2,h3⟩ | ⟨h0,-,h1,h2,h3,h4⟩
  · have ep:zAP (idx off mult) [q]=[]:=by unfold zAP zG3; simp [h0]
    have en:zAQ (idx off mult) [q]=[]:=by unfold zAQ zHC; simp [h0]
    rw [ep,en,if_pos h0,List.append_nil,List.append_nil]
    obtain ⟨g1,g2⟩:=zUz hb hq h0
    refine (zQw M pd pm pp pn g off mult mn mx (zAd xs) q.1 q.2 w h.bd h.bm (by omega) hn0 g1 g2 (zDC hf)).mono ?_
    rintro e w' ⟨rfl,rfl⟩
    have hfr:Fr (fun b=>b=pd) w (w.setCell ⟨pd,3,none⟩ (.float .f64 (nf (zAd xs+q.2)))):=(show Fr (fun b=>b=pd) w w from Fr.refl _ _).setCell (p:=⟨pd,3,none⟩) (fun _=>rfl) _
    refine ⟨rfl,SP,SN,(heap_setCell_same w pd 3 _ _ _ h.bd).trans rfl,K.fr most _ SP pp _ w _ h.sp hfr (fun b hb=>(h.own b (.inl hb)).2.1),K.fr most _ SN pn _ w _ h.sn hfr (fun b hb=>(h.own b (.inr hb)).2.1),hfr.mono (fun _ _ h=>.inl h),fun b hb=>.inl hb,fun b hb=>.inl hb,h.dj⟩
  · obtain ⟨i,ei,i0,i1⟩:=hi2 q.1 h1 h2
    have ep:zAP (idx off mult) [q]=[(i,q.2)]:=by unfold zAP zG3; simp [h0,ei]
    have en:zAQ (idx off mult) [q]=[]:=by unfold zAQ zHC; simp; omega
    rw [ep,en,if_neg (by omega),List.append_nil,Nat.add_zero]
    obtain ⟨g1,g2⟩:=zWF hb hq h0
    refine (zQx M most pd pm pp pn g off mult mn mx (zAd xs) q.1 q.2 i _ SP w h.bd h.bm h.sp hk p1 p2 (by omega) (by omega) (by omega) (by omega) (by omega) hn0 g1 g2 ei).mono ?_
    rintro e w' ⟨rfl,S',hs,hfr,hS⟩
    refine ⟨rfl,S',SN,hfr.heap h.bd (fun hh=>(h.own pd (.inl hh)).2.1 rfl),hs,K.fr most _ SN pn _ w _ h.sn hfr (fun b hb hh=>h.dj b hh hb),hfr.mono (fun _ _ h=>.inr (.inl h)),hS,fun b hb=>.inl hb,fun b hb hh=>?_⟩
    rcases hS b hb with h9 | h9
    · exact h.dj b h9 hh
    · have:=ltn b hh; omega
  · obtain ⟨i,ei,i0,i1⟩:=hi2 (q.1 - 9223372036854775808) h1 h2
    rw [← h4] at ei
    have ep:zAP (idx off mult) [q]=[]:=by unfold zAP zG3; simp; omega
    have en:zAQ (idx off mult) [q]=[(i,q.2)]:=by unfold zAQ zHC; simp [h0,ei]
    rw [ep,en,if_neg (by omega),List.append_nil,Nat.add_zero]
    obtain ⟨g1,g2,g3⟩:=zWG hb hq h0
    refine (zQy M most pd pm pp pn g off mult mn mx (zAd xs) q.1 q.2 i _ SN w h.bd h.bm h.sn hk n1 n2 (by omega) (by omega) (by omega) (by omega) (by omega) hn0 g1 g2 g3 ei).mono ?_
    rintro e w' ⟨rfl,S',hs,hfr,hS⟩
    refine ⟨rfl,SP,S',hfr.heap h.bd (fun hh=>(h.own pd (.inr hh)).2.1 rfl),K.fr most _ SP pp _ w _ h.sp hfr (fun b hb hh=>h.dj b hb hh),hs,hfr.mono (fun _ _ h=>.inr (.inr h)),fun b hb=>.inl hb,hS,fun b hb hh=>?_⟩
    rcases hS b hh with h9 | h9
    · exact h.dj b hb h9
    · have:=ltp b hb; omega
def Holds {kind:Int} (K:zAD kind) (tP t:TypeId) (idx:Nat→Option Int) (most:Int) (g off mult mn mx:Nat) (B:Rat) (xs:Items) (SP SN:Nat→Prop) (pe pd pt pm pp pn:Nat) (w:World):Prop :=
  ∃ c s k l lo hi,Sk K tP t most g off mult mn mx (zAP idx xs) (zAQ idx xs) (zAd xs) c s k l lo hi SP SN pe pd pt pm pp pn w∧zGX B xs c s k l lo hi
def zWX {kind:Int} (K:zAD kind) (tP t:TypeId) (idx:Nat→Option Int) (most:Int) (g off mult mn mx:Nat) (B:Rat) (xs:Items) (SP SN:Nat→Prop) (pe pd pt pm pp pn:Nat) (w:World) (e:Ending) (w':World):Prop :=
  e = .returned .nilIface∧∃ SP' SN',Holds K tP t idx most g off mult mn mx B xs SP' SN' pe pd pt pm pp pn w'∧Fr (fun b=>b=pd∨b=pt∨SP b∨SN b) w w'∧(∀ b,SP' b→SP b∨w.heap.size≤b)∧∀ b,SN' b→SN b∨w.heap.size≤b
set_option maxRecDepth 100000 in
set_option maxHeartbeats 1000000 in
theorem zSu {most:Int} {g off mult mn mx pe pd pt pm pp pn:Nat} {B:Rat} {xs:Items} {SP SN:Nat→Prop} {w:World}
   (h:Holds K M.tP M.t (idx off mult) most g off mult mn mx B xs SP SN pe pd pt pm pp pn w) (hk:zBg kind most=true) (hb:Bnd mn mx) (hi2:zC4 (idx off mult)) (hx:∀ q∈xs,zAU q) (hl:xs.length<900)
   {q:Nat × Nat} (hq:zAU q) (hB:qv (absI (xs++[q]))≤B) :
    Calls Tryz.prog 38 #[.pointer (some ⟨pe,0,none⟩),.float .f64 q.1,.float .f64 (nf q.2)] w fun e w' =>
      zWX K M.tP M.t (idx off mult) most g off mult mn mx B (xs++[q]) SP SN pe pd pt pm pp pn w e w':=by
  obtain ⟨c,s,k,l,lo,hi,hs,hv⟩:=h
  have ht:=zDa hx
  obtain ⟨c',x,s',k',l',a1,a2,a3,a4,a5⟩:=zO1 hv hq hB hl (by omega)
  have HA:=zS3 M hs hk hb hi2 hx hl hq
  have e0:=cell_of_row _ _ 0 _ _ _ hs.be
  have e1:=cell_of_row _ _ 1 _ _ _ hs.be
  have k0:(FloatKind.f64.format.order (nf q.2) 0 == some .eq)=false:=by
    have h1:=zBn q.2 0 (by have:=hq.c2; omega) (by decide)
    rw [zAp] at h1
    rw [h1,Nat.compare_eq_gt.2 (by have:=hq.c1; omega)]; rfl
  have HS:=Lib.hid hs
  have H5:=Lib.hid a5
  have HST:∀ w1,St6 w1 pt c s k l lo hi→Calls Tryz.prog 62 #[.pointer (some ⟨pt,0,none⟩),.float .f64 q.1,.float .f64 (nf q.2)] w1 fun e w'=>e = .returned (.tuple #[])∧St6 w' pt c' s' k' l' (if flt q.1 lo=true then q.1 else lo) (if fgt q.1 hi=true then q.1 else hi)∧Fr (fun b=>b=pt) w1 w' :=
    fun w1 h6=>zNZ pt c s k l lo hi q.1 (nf q.2) x c' s' k' l' w1 h6 a1 a2 a3 a4
  obtain ⟨v,n⟩:=q
  dsimp only at *
  obtain ⟨nc,hnc⟩:∃ y,y=nf n:=⟨_,rfl⟩
  rw [← hnc] at HA HST k0 ⊢
  have nt:pt≠pd:=fun e=>by have h1:=hs.bt; rw [e] at h1; have h2:=hs.bd; rw [show w.heap[pd]?=_ from h1] at h2; cases h2
  have net:pt≠pe:=fun e=>by have h1:=hs.bt; rw [e] at h1; have h2:=hs.be; rw [show w.heap[pe]?=_ from h1] at h2; cases h2
  have ned:pe≠pd:=fun e=>by have h1:=hs.be; rw [e] at h1; have h2:=hs.bd; rw [h1] at h2; cases h2
  have NE:=Lib.hid (And.intro nt (And.intro net ned))
  clear hs hv a1 a2 a3 a4 a5 hk hb hi2 hx hl hq hB ht hnc nt net ned
  go_enter Tryz.func38,Tryz.ntmps38
  go_wp2_with fail
  refine HA.mono ?_
  clear HA
  rintro e w1 ⟨rfl,SP',SN',b1,b2,b3,b4,b5,b6,b7⟩
  have hnot:∀ b,b<w.heap.size→b≠pd→¬ SP b→¬ SN b→¬ (b=pd∨SP b∨SN b):=fun b _ h1 h2 h3 h=>h.elim h1 (fun h=>h.elim h2 h3)
  have hpe:¬ (pe=pd∨SP pe∨SN pe):=fun h=>h.elim NE.out.2.2 (fun h=>(HS.out.own pe h).1 rfl)
  have hpt:¬ (pt=pd∨SP pt∨SN pt):=fun h=>h.elim NE.out.1 (fun h=>(HS.out.own pt h).2.2.1 rfl)
  have hpm:¬ (pm=pd∨SP pm∨SN pm):=fun h=>h.elim HS.out.nm.2.1 (fun h=>(HS.out.own pm h).2.2.2 rfl)
  have e0':=b4.cell e0 hpe
  have e1':=b4.cell e1 hpe
  have t1:St6 w1 pt c s k l lo hi:=b4.heap HS.out.bt hpt
  have HT:=HST w1 t1
  have HBE:=Lib.hid (b4.heap HS.out.be hpe)
  have HBM:Hid (Map5 M.t w1 pm g off mult mn mx):=b4.heap HS.out.bm hpm
  have H1:=Lib.hid b1
  have H2:=Lib.hid b2
  have H3:=Lib.hid b3
  have H4:=Lib.hid b4
  have H6:=Lib.hid b5
  have H7:=Lib.hid b6
  have H8:=Lib.hid b7
  clear b1 b2 b3 b4 b5 b6 b7 e0 e1 t1 HST hpe hpt hpm hnot
  go_wp2_with (go_at_call 62; (with_reducible refine HT.mono ?_); rintro e w2 ⟨rfl,g6,gf⟩; have G6:=Lib.hid g6; have GF:=Lib.hid gf; clear g6 gf HT)
  go_ret
  have lpe:=lt_of_block HS.out.be
  have lpd:=lt_of_block HS.out.bd
  have lpt:=lt_of_block HS.out.bt
  have lpm:=lt_of_block HS.out.bm
  have ownS:∀ b,SP' b∨SN' b→b≠pe∧b≠pd∧b≠pt∧b≠pm:=fun b hb=>by
    have h9:(SP b∨SN b)∨w.heap.size≤b:=hb.elim (fun h=>(H6.out b h).elim (fun h=>.inl (.inl h)) .inr) (fun h=>(H7.out b h).elim (fun h=>.inl (.inr h)) .inr)
    rcases h9 with h9 | h9
    · exact HS.out.own b h9
    · omega
  refine ⟨rfl,SP',SN',⟨c',s',k',l',_,_,⟨GF.out.heap HBE.out (Ne.symm NE.out.2.1),GF.out.heap H1.out (Ne.symm NE.out.1),G6.out,GF.out.heap HBM.out (fun h=>HS.out.nm.2.2 h),K.fr most _ SP' pp _ w1 w2 H2.out GF.out (fun b hb h=>(ownS b (.inl hb)).2.2.1 h),K.fr most _ SN' pn _ w1 w2 H3.out GF.out (fun b hb h=>(ownS b (.inr hb)).2.2.1 h),H8.out,ownS,HS.out.nm⟩,H5.out⟩,H4.out.trans GF.out (fun b _ h=>?_) (fun b _ h=>.inr (.inl h)),H6.out,H7.out⟩
  rcases h with h | h | h
  · exact .inl h
  · exact .inr (.inr (.inl h))
  · exact .inr (.inr (.inr h))
end
end Go.Proofs.YtllaekopaglolaaGreat
end
/-
  impl.sketched: a sketch of a list of values.
-/
section
namespace Go.Proofs.YtllaekopaglolaaGreat
open Go.RowKit
theorem zBH {w:World} {o:Obj} {n:Nat} (h:w.heap.size=n):(w.alloc o).heap[n]?=some o:=by subst h; exact heap_alloc_new w o
theorem zAI {w:World} {o x:Obj} {k:Nat} (h:w.heap[k]?=some x):(w.alloc o).heap[k]?=some x:=(Below.heap_alloc w o k (lt_of_block h)).trans h
theorem zA1 {w:World} {o:Obj} {n:Nat} (h:w.heap.size=n):(w.alloc o).heap.size=n+1:=by subst h; simp
def LieQ (w:World) (ao:Option Addr) (xs:Items):Prop :=
  xs=[]∨∃ g off,ao=some ⟨g,off,none⟩∧∀ i,(h:i<xs.length)→w.cell? ⟨g,off+i*2,none⟩=some (.float .f64 xs[i].1)∧w.cell? ⟨g,off+i*2+1,none⟩=some (.float .f64 (nf xs[i].2))
theorem LieQ.later {w w':World} {ao:Option Addr} {ps:Items} (h:LieQ w ao ps) (hb:Below w.heap.size w w'):LieQ w' ao ps:=by
  rcases h with h | ⟨g,off,rfl,h⟩
  · exact .inl h
  · refine .inr ⟨g,off,rfl,fun i hi=>?_⟩
    obtain ⟨h0,h1⟩:=h i hi
    exact ⟨(hb.cell (World.block_lt_of_cell? w _ h0)).trans h0,(hb.cell (World.block_lt_of_cell? w _ h1)).trans h1⟩
section
variable {kind:Int} {K:zAD kind} {tP t:TypeId} {idx:Nat→Option Int} {most:Int} {g off mult mn mx:Nat} {B:Rat} {xs:Items} {SP SN:Nat→Prop} {pe pd pt pm pp pn:Nat} {w w':World}
theorem Sk.fr {ps ns:Bins} {z c s k l lo hi:Nat} {S:Nat→Prop} (h:Sk K tP t most g off mult mn mx ps ns z c s k l lo hi SP SN pe pd pt pm pp pn w) (hf:Fr S w w') (hn:∀ b,b=pe∨b=pd∨b=pt∨b=pm∨SP b∨SN b→¬ S b):Sk K tP t most g off mult mn mx ps ns z c s k l lo hi SP SN pe pd pt pm pp pn w' :=
  ⟨hf.heap h.be (hn pe (.inl rfl)),hf.heap h.bd (hn pd (.inr (.inl rfl))),hf.heap h.bt (hn pt (.inr (.inr (.inl rfl)))),hf.heap h.bm (hn pm (.inr (.inr (.inr (.inl rfl))))),K.fr most _ SP pp S w w' h.sp hf (fun b hb=>hn b (.inr (.inr (.inr (.inr (.inl hb)))))),K.fr most _ SN pn S w w' h.sn hf (fun b hb=>hn b (.inr (.inr (.inr (.inr (.inr hb)))))),h.dj,h.own,h.nm⟩
theorem Holds.fr {S:Nat→Prop} (h:Holds K tP t idx most g off mult mn mx B xs SP SN pe pd pt pm pp pn w) (hf:Fr S w w') (hn:∀ b,b=pe∨b=pd∨b=pt∨b=pm∨SP b∨SN b→¬ S b):Holds K tP t idx most g off mult mn mx B xs SP SN pe pd pt pm pp pn w':=by
  obtain ⟨c,s,k,l,lo,hi,h1,h2⟩:=h
  exact ⟨c,s,k,l,lo,hi,h1.fr hf hn,h2⟩
theorem Holds.alloc (h:Holds K tP t idx most g off mult mn mx B xs SP SN pe pd pt pm pp pn w) (o:Obj):Holds K tP t idx most g off mult mn mx B xs SP SN pe pd pt pm pp pn (w.alloc o) :=
  h.fr ((Fr.refl (fun _=>False) w).alloc o) (fun _ _ h=>h)
def From (SP SN:Nat→Prop) (pe pd pt pm b0:Nat):Prop:=b0≤pe∧b0≤pd∧b0≤pt∧b0≤pm∧(∀ b,SP b→b0≤b)∧∀ b,SN b→b0≤b
end
section
variable {kind mk:Int} {K:zAD kind} {of_:Nat→Option (Nat × Nat × Nat × Nat × Nat)} {acc:Nat→Option Nat} {idx:Nat→Nat→Nat→Option Int} {lower:Nat→Nat→Int→Option Nat} {value:Nat→Nat→Nat→Int→Option Nat} (M:zBK mk of_ acc idx lower value)
def zXq (K:zAD kind) (M:zBK mk of_ acc idx lower value) (most:Int) (g off mult mn mx:Nat) (B:Rat) (xs:Items) (pe pd pt pm pp pn:Nat) (w wr:World) (i:Value):Prop :=
  ∃ (k:Nat) (SP SN:Nat→Prop),k≤xs.length∧i = .int .i64 (k:Int)∧Holds K M.tP M.t (idx off mult) most g off mult mn mx B (xs.take k) SP SN pe pd pt pm pp pn wr∧From SP SN pe pd pt pm w.heap.size∧Below w.heap.size w wr
def zOj (K:zAD kind) (M:zBK mk of_ acc idx lower value) (most:Int) (g off mult mn mx:Nat) (B:Rat) (xs:Items) (w:World) (e:Ending) (w':World):Prop :=
  ∃ pe pd pt pm pp pn SP SN,e = .returned (.tuple #[.pointer (some ⟨pe,0,none⟩),.bool true])∧Holds K M.tP M.t (idx off mult) most g off mult mn mx B xs SP SN pe pd pt pm pp pn w'∧From SP SN pe pd pt pm w.heap.size∧Below w.heap.size w w'
theorem zHn (xs:Items) (k:Nat):absI (xs.take k)≤absI xs:=by
  have h:=zC2 (xs.take k) (xs.drop k)
  rw [List.take_append_drop] at h
  have:=zBk (xs.drop k)
  omega
set_option maxRecDepth 100000 in
set_option maxHeartbeats 2000000 in
theorem zF8 (most:Int) (a g off mult mn mx cp:Nat) (B:Rat) (ao:Option Addr) (xs:Items) (w:World) (hk:zBg kind most=true) (hmk:of_ a=some (g,off,mult,mn,mx)) (hb:Bnd mn mx) (hi2:zC4 (idx off mult))
   (hl:LieQ w ao xs) (hx:∀ q∈xs,zAU q) (hn:xs.length≤400) (hB0:0≤B) (hB1:B≤1099511627776) (hB:qv (absI xs)≤B) :
    Calls Tryz.prog 16 #[.int .i64 mk,.float .f64 a,.int .i64 kind,.int .i64 most,.slice ao xs.length cp] w fun e w'=>zOj K M most g off mult mn mx B xs w e w':=by
  have HM:=fun w=>M.made a g off mult mn mx w hmk
  have HN:=fun w=>K.new most w hk
  have HS:=fun pm b0 b1 w h0 h1 h2=>zSH K M.tP M.t most g off mult mn mx pm b0 b1 w hk h0 h1 h2
  have HK:=Lib.hid hk
  have HBn:=Lib.hid hb
  have HI:=Lib.hid hi2
  have HL:=Lib.hid hl
  have HX:=Lib.hid hx
  have HB:=Lib.hid hB
  have HB01:=Lib.hid (And.intro hB0 hB1)
  have hmf:∀ (fn:Fn) (first cap:Array Value) (w:World),(Instr.makeFunc fn first cap).run Tryz.prog w = .ok (.func fn first cap) w:=fun _ _ _ _=>rfl
  clear hk hmk hb hi2 hl hx hB hB0 hB1
  go_enter Tryz.func16,Tryz.ntmps16
  go_wp2_with fail
  refine (HM _).mono ?_
  clear HM
  rintro e w1 ⟨pm,rfl,hpm,hm5,hb1⟩
  have hal:∀ o0 o1,((w.alloc o0).alloc o1).heap.size=w.heap.size+2:=fun o0 o1=>by simp
  have hbW:=(((Below.refl w.heap.size w).alloc (Nat.le_refl _) (.cells #[.int .i64 kind] 3)).alloc (by simp) (.cells #[.int .i64 most] 3))
  have q0:w1.cell? ⟨w.heap.size,0,none⟩=some (.int .i64 kind):=cell_of_one ((hb1.5 w.heap.size (by simp; omega)).trans (zAI (zBH rfl)))
  have q1:w1.cell? ⟨w.heap.size+1,0,none⟩=some (.int .i64 most):=cell_of_one ((hb1.5 (w.heap.size+1) (by simp)).trans (zBH (by simp)))
  have hbw1:=hbW.trans (hb1.mono (by simp; omega))
  have hpm':w.heap.size≤pm:=by rw [hal] at hpm; omega
  have HM5:=Lib.hid hm5
  have HB1:=Lib.hid hbw1
  have HPM:=Lib.hid hpm'
  clear hb1 hbW hpm hm5 hbw1 hpm' hal
  go_wp2_with (go_at_call 35; (with_reducible refine (HN _).mono ?_); rintro e w2 ⟨p0,S0,rfl,-,-,hf2⟩; have q0':=hf2.cell q0 (fun h=>h); have q1':=hf2.cell q1 (fun h=>h); have HM6:=Lib.hid (hf2.heap HM5.out (fun h=>h)); have HF2:=Lib.hid hf2; have HSK:=HS pm _ _ _ q0' q1' (HM6.out); clear hf2 q0 q1)
  refine HSK.mono ?_
  clear HSK HS HN q0' q1'
  rintro e w3 ⟨pe,pd,pt,pp,pn,SP,SN,rfl,hsk,h1,h2,h3,h4,hf3⟩
  have hbw2:Below w.heap.size w w2:=HB1.out.trans (HF2.out.below (fun _ h=>h.elim) HB1.out.size)
  have hbw3:Below w.heap.size w w3:=hbw2.trans (hf3.below (fun _ h=>h.elim) hbw2.size)
  have HB3:=Lib.hid hbw3
  have z2:=hbw2.size
  have HF0:Hid (From SP SN pe pd pt pm w.heap.size):=⟨by omega,by omega,by omega,HPM.out,fun b hb=>by have:=h4 b (.inl hb); omega,fun b hb=>by have:=h4 b (.inr hb); omega⟩
  have HH:Hid (Holds K M.tP M.t (idx off mult) most g off mult mn mx B [] SP SN pe pd pt pm pp pn w3):=⟨_,_,_,_,_,_,hsk,zRQ HB01.out.1 HB01.out.2⟩
  clear hsk h1 h2 h3 h4 hf3 hbw2 hbw3 z2 HM5 HM6 HB1 HF2
  go_wp2
  go_loopw [37] (fun i wr=>zXq K M most g off mult mn mx B xs pe pd pt pm pp pn w wr i) (fun i _=>xs.length - (intOf i).toNat)
  case atStart=>exact ⟨0,SP,SN,Nat.zero_le _,rfl,by rw [List.take_zero]; exact HH.out,HF0.out,HB3.out⟩
  case round =>
    obtain ⟨k,SP1,SN1,hk,rfl,hh,hfrom,hb⟩:=hrel
    by_cases hlt:k<xs.length
    · rcases HL.out.later hb with h0 | ⟨gg,off2,rfl,hcell⟩
      · rw [h0] at hlt; exact absurd hlt (Nat.not_lt_zero _)
      obtain ⟨c0,c1⟩:=hcell k hlt
      have hltI:(k:Int)<((xs.length:Nat):Int):=by omega
      have htk:xs.take (k+1)=xs.take k++[xs[k]]:=List.take_succ_eq_append_getElem hlt
      have hq:=HX.out xs[k] (List.getElem_mem hlt)
      have hab:qv (absI (xs.take k++[xs[k]]))≤B:=by
        rw [← htk]
        exact Rat.le_trans (zA9 (zHn xs (k+1))) HB.out
      have hlk:(xs.take k).length<900:=by rw [List.length_take]; omega
      have HA:=fun o=>zSu M (hh.alloc o) HK.out HBn.out HI.out (fun q hq=>HX.out q (List.mem_of_mem_take hq)) hlk hq hab
      rw [← htk] at HA
      obtain ⟨v,hv⟩:∃ v,v=xs[k].1:=⟨_,rfl⟩
      obtain ⟨n,hnn⟩:∃ n,n=nf xs[k].2:=⟨_,rfl⟩
      rw [← hv] at c0 HA
      rw [← hnn] at c1 HA
      have HA1:=HA (.cells #[.float .f64 v,.float .f64 n] 37)
      have HFM:=Lib.hid hfrom
      have HBB:=Lib.hid hb
      have hzz:=hb.size
      have HZ:=Lib.hid hzz
      clear HA hq hab hlk htk hv hnn hcell hh hfrom hb hzz
      go_wp2_with (go_at_call 38; (with_reducible refine HA1.mono ?_); rintro e w5 ⟨rfl,SP2,SN2,hh2,hf5,hS1,hS2⟩; have HH2:=Lib.hid hh2; have HF5:=Lib.hid hf5; have HS1:=Lib.hid hS1; have HS2:=Lib.hid hS2; clear hh2 hf5 hS1 hS2 HA1)
      go_roundw
      case rel =>
        have hal:(wr.alloc (.cells #[.float .f64 v,.float .f64 n] 37)).heap.size=wr.heap.size+1:=by simp
        have hz:=HZ.out
        obtain ⟨g1,g2,g3,g4,g5,g6⟩:=HFM.out
        refine ⟨k+1,SP2,SN2,by omega,by go_num,HH2.out,⟨g1,g2,g3,g4,fun b hb=>?_,fun b hb=>?_⟩,(HBB.out.alloc hz _).trans (HF5.out.below (fun b hb=>?_) (by omega))⟩
        · rcases HS1.out b hb with h | h
          · exact g5 b h
          · omega
        · rcases HS2.out b hb with h | h
          · exact g6 b h
          · omega
        · rcases hb with h | h | h | h
          · omega
          · omega
          · exact g5 b h
          · exact g6 b h
      case measure=>simp [intOf]; omega
    · obtain rfl:k=xs.length:=by omega
      rw [List.take_length] at hh
      have HH2:=Lib.hid hh
      have HFM:=Lib.hid hfrom
      have HBB:=Lib.hid hb
      clear hlt hh hfrom hb
      go_wp2
      go_ret2
      exact ⟨pe,pd,pt,pm,pp,pn,SP1,SN1,rfl,HH2.out,HFM.out,HBB.out⟩
end
end Go.Proofs.YtllaekopaglolaaGreat
end
