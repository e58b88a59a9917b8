/-
  What a sketch answers is near the reference's quantile.
-/
import Derived.Test.YtllaekopaglolaaGreatHBL
import Derived.Test.YtllaekopaglolaaGreatHBK
import Derived.Deep.RegionHeld3
section
namespace Go.Proofs.YtllaekopaglolaaGreat
open Go.RowKit
set_option exponentiation.threshold 5000
theorem zNQ {xs:Items} {lo hi:Nat} (h:Ends xs lo hi) (hne:xs≠[]):∃ a b,FV lo a∧FV hi b∧(∀ q∈xs,a≤vI q.1∧vI q.1≤b):=by
  rcases h with ⟨h,-⟩ | ⟨-,a,b,fa,fb,-,l1,-,l2⟩
  · exact absurd h hne
  · exact ⟨a,b,fa,fb,fun q hq=>⟨l1 q hq,l2 q hq⟩⟩
theorem zIR {W v lo hi part P p:Nat} {X Y a b:Int} (fW:FV W X) (fv:FV v Y) (fa:FV lo a) (fb:FV hi b) (h1:a≤Y) (h2:Y≤b) (hpt:FV part (P:Int)) (hE:(X - Y).natAbs*1000000000000≤p*10000000001*Y.natAbs)
    (hP:p*10000000005*2^1074≤1000000000000*P) (hP2:P≤2^1074) (hY:2^1050≤Y.natAbs) (hY2:Y.natAbs≤2^1098) (p1:1≤p) (p2:p≤50):zDy (zBj lo hi W) v part=some true:=by
  have key:∃ X',FV (zBj lo hi W) X'∧(X' - Y).natAbs≤(X - Y).natAbs:=by
    unfold zBj
    rw [zBD fW fa,zBa fW fb]
    by_cases c:X<a
    · rw [if_pos (by simpa using c)]; exact ⟨a,fa,by clear hP hP2 hY hY2 hE; omega⟩
    · rw [if_neg (by simpa using c)]
      by_cases d:b<X
      · rw [if_pos (by simpa using d)]; exact ⟨b,fb,by clear hP hP2 hY hY2 hE; omega⟩
      · rw [if_neg (by simpa using d)]; exact ⟨X,fW,Nat.le_refl _⟩
  obtain ⟨X',fX,hle⟩:=key
  exact zUL fX fv hpt (Nat.le_trans (Nat.mul_le_mul_right _ hle) hE) hP hP2 hY hY2 p1 p2
theorem zH0 {p V v:Nat} (h:zKG p V v) (p2:p≤50):(((rvN V:Nat):Int) - ((rvN v:Nat):Int)).natAbs*1000000000000≤p*10000000001*rvN v:=by
  obtain ⟨-,-,h1,h2⟩:=h
  rw [Nat.add_mul] at h1
  rw [Nat.sub_mul] at h2
  have h5:p*10000000001*rvN v≤500000000050*rvN v:=Nat.mul_le_mul_right _ (zRy p2)
  generalize p*10000000001*rvN v=w at *
  generalize rvN v=y at *
  generalize rvN V=x at *
  omega
def zVX (idx:Nat→Option Int) (value:Int→Option Nat) (p:Nat):Prop:=∀ v,4517329193108106637≤v→v≤4696837146684686336→∃ i V,idx v=some i∧value i=some V∧zKG p V v
theorem z_le {Z:Int} (hZ0:0<Z) {a b:Nat} (h:a≤b):(a:Int)*Z≤(b:Int)*Z:=Int.mul_le_mul_of_nonneg_right (Int.ofNat_le.2 h) (Int.le_of_lt hZ0)
theorem zU2 {idx:Nat→Option Int} {value:Int→Option Nat} {p part P:Nat} (hm:zRC idx) (hi:zC4 idx) (ht:zVX idx value p) (hpt:FV part (P:Int)) (hP:p*10000000005*2^1074≤1000000000000*P) (hP2:P≤2^1074) (p1:1≤p) (p2:p≤50)
    {xs:Items} (hx:∀ q∈xs,zAU q) (h0:0<xs.length) (hn:xs.length≤400) {q:Nat} (hq:q<18446744073709551616) (ho:okQ q=true) :
    ∃ out,zKJ value (zAP idx xs) (zAQ idx xs) (zAd xs) q out∧∀ L:Items,L.Perm xs→Srt L→∀ lo hi',Ends xs lo hi'→zFf L q (zBj lo hi' out) part:=by
  have hne:xs≠[]:=fun e=>by subst e; exact Nat.lt_irrefl 0 h0
  obtain ⟨t1,t2⟩:=zGr hi hx
  have hNle:=zDa hx
  have hN0:0<totC xs:=by
    cases xs with
    | nil=>exact absurd rfl hne
    | cons a t =>
      have:=(hx a List.mem_cons_self).c1
      show 0<a.2+totC t; omega
  have hsplit:zAd xs+tot (zAP idx xs)+tot (zAQ idx xs)=totC xs:=by omega
  have hN6:totC xs<1000000:=by omega
  obtain ⟨Q,fq,hQ,q0,q1⟩:=zWj hq ho
  obtain ⟨r,R,hr,fr,hR⟩:=zVk (n:=totC xs - 1) fq hQ (by clear hP hP2 hQ; omega)
  have hc1:=zSG hN0 (Nat.lt_trans hN6 (by decide))
  obtain ⟨Z,hZe⟩:∃ Z:Int,Z=2^1074:=⟨_,rfl⟩
  have hZ:∀ n:Nat,n<9007199254740992→FV (nf n) ((n:Int)*Z):=fun n h=>by rw [hZe]; exact zFq n h
  have hZ0:0<Z:=by rw [hZe]; exact zCM
  have hqz:∀ k:Int,qv (k*Z)=(k:Rat):=fun k=>by rw [hZe]; exact zCI k 1074 rfl
  have hRZ:(R:Int)≤((totC xs - 1:Nat):Int)*Z:=by
    rw [hZe]
    have:=Int.ofNat_le.2 hR
    rw [Int.natCast_mul,Int.natCast_pow] at this
    exact this
  have hRN:(R:Int)<((totC xs:Nat):Int)*Z:=by
    obtain ⟨k,hk⟩:∃ k,totC xs=k+1:=⟨totC xs - 1,by clear hP hP2 hQ hR hZe; omega⟩
    rw [hk,Nat.add_sub_cancel] at hRZ
    rw [hk,Int.natCast_add,Int.add_mul]
    show (R:Int)<(k:Int)*Z+1*Z
    rw [Int.one_mul]
    clear hP hP2 hQ hR hZe; omega
  have hqn:∀ n:Nat,n≤40000→0≤qv ((n:Int)*Z)∧qv ((n:Int)*Z)≤40000:=fun n h=>by
    rw [hqz,Rat.intCast_natCast]
    exact ⟨Rat.natCast_le_natCast.2 (Nat.zero_le n),Rat.natCast_le_natCast.2 h⟩
  have hq1:0≤qv (R:Int):=by
    have h1:=zA9 (Int.natCast_nonneg R)
    rw [zCq] at h1; exact h1
  have hq2:qv (R:Int)≤40000:=Rat.le_trans (zA9 hRZ) (hqn _ (by clear hP hP2 hQ hR hZe; omega)).2
  have hng:=zDJ xs
  have fG:=hZ (totC (negs xs)) (by clear hP hP2 hQ hR hZe; omega)
  obtain ⟨g1,g2⟩:=hqn (totC (negs xs)) (by clear hP hP2 hQ hR hZe; omega)
  have fO:=hZ 1 (by decide)
  have o1:qv (((1:Nat):Int)*Z)=1:=by rw [hqz]; rfl
  rw [zCs] at fO
  obtain ⟨r1,R1,hr1,fr1,u1,u2⟩:=zEj fG fO 4000000 (by grind) (by grind) (by grind)
  obtain ⟨r2,R2,hr2,fr2,v1,v2⟩:=zEj fr1 fr 9000000 (by grind) (by grind) (by grind)
  have b1:-1000000≤qv (R:Int):=by grind
  have b2:qv (R:Int)≤1000000:=by grind
  have d1:-1000000≤qv R2:=by grind
  have d2:qv R2≤1000000:=by grind
  clear u1 u2 v1 v2 hqn hqz
  have hLall:∀ L:Items,L.Perm xs→totC L=totC xs∧totC (negs L)=totC (negs xs)∧∀ q∈L,q∈xs:=fun L hp=>⟨zBb hp,zBb (zFI hp),fun q hq=>hp.mem_iff.1 hq⟩
  have hflt:flt r (nf (totC (negs xs)))=decide ((R:Int)<((totC (negs xs):Nat):Int)*Z):=zBD fr fG
  have fin:∀ out,(∀ L:Items,L.Perm xs→Srt L→∀ lo hi',Ends xs lo hi'→(flt r (nf (totC (negs L)))=true→0<(negs L).length)∧zDy (zBj lo hi' out) (zDs L r r2) part=some true) →
      ∀ L:Items,L.Perm xs→Srt L→∀ lo hi',Ends xs lo hi'→zFf L q (zBj lo hi' out) part:=fun out h L hp hs lo hi' he=>by
    obtain ⟨e1,e2,-⟩:=hLall L hp
    obtain ⟨h1,h2⟩:=h L hp hs lo hi' he
    exact ⟨nf (totC xs - 1),r,r1,r2,R,R2,by rw [e1]; exact hc1,hr,fr,b1,b2,by rw [e2]; exact hr1,hr2,fr2,d1,d2,h1,h2⟩
  obtain ⟨L0,hp0,hs0⟩:=zRU xs
  by_cases hcase:(R:Int)<((totC (negs xs):Nat):Int)*Z
  · have hflt1:flt r (nf (totC (negs xs)))=true:=by rw [hflt,decide_eq_true_eq]; exact hcase
    have hn0:0<totC (negs xs):=by
      refine Nat.pos_of_ne_zero fun e=>?_
      rw [e,Int.natCast_zero,Int.zero_mul] at hcase
      clear hP hP2 hQ hR hZe; omega
    obtain ⟨n,hnn⟩:∃ n,totC (negs xs)=n+1:=⟨totC (negs xs) - 1,by clear hP hP2 hQ hR hZe; omega⟩
    have hn6:n+1<1000000:=by clear hP hP2 hQ hR hZe; omega
    have hcase2:=hcase
    rw [hnn] at hcase2
    have hr1':=zSG hn0 (by clear hP hP2 hQ hR hZe; omega)
    obtain rfl:r1=nf (totC (negs xs) - 1):=Option.some.inj (hr1.symm.trans hr1')
    have hR2:R2<((totC (negs xs):Nat):Int)*Z:=by
      have fp:=hZ (totC (negs xs) - 1) (by clear hP hP2 hQ hR hZe; omega)
      obtain ⟨w,W,hw,fw,w1,w2⟩:=zEj fp fr 9000000 (by
        have:=(Rat.natCast_le_natCast (a:=0) (b:=0)).2 (Nat.le_refl 0)
        have h1:qv (((totC (negs xs) - 1:Nat):Int)*Z)≤qv (((totC (negs xs):Nat):Int)*Z):=zA9 (z_le hZ0 (Nat.sub_le _ _))
        have h2:0≤qv (((totC (negs xs) - 1:Nat):Int)*Z):=by
          have:=zA9 (Int.mul_nonneg (Int.natCast_nonneg (totC (negs xs) - 1)) (Int.le_of_lt hZ0))
          rwa [zCq] at this
        grind) (by
        have h1:qv (((totC (negs xs) - 1:Nat):Int)*Z)≤qv (((totC (negs xs):Nat):Int)*Z):=zA9 (z_le hZ0 (Nat.sub_le _ _))
        grind) (by grind)
      have hw2:w=r2:=Option.some.inj (hw.symm.trans hr2)
      subst hw2
      have hWR:=zSi fw fr2
      have h9:∃ z,fsub (nf (totC (negs xs) - 1)) r=some z∧FV z (rndI 0 ((((totC (negs xs) - 1:Nat):Int)*Z) - (R:Int))):=by
        obtain ⟨z,hz,fz⟩:=zDG fp fr (by
          rw [hnn,Nat.add_sub_cancel]
          refine Nat.lt_trans (zAg (k:=1127) ?_ (by decide)) (by decide)
          have hb1:((n:Int)*Z - (R:Int)).natAbs≤(n+1)*2^1074:=by
            have e1:(((n+1)*2^1074:Nat):Int)=((n+1:Nat):Int)*Z:=by rw [Int.natCast_mul,Int.natCast_pow,hZe]; rfl
            have e2:((n+1:Nat):Int)*Z=(n:Int)*Z+Z:=by rw [Int.natCast_add,Int.add_mul]; show _+1*Z=_; rw [Int.one_mul]
            have e3:=Int.mul_nonneg (Int.natCast_nonneg n) (Int.le_of_lt hZ0)
            have e4:((((n:Int)*Z - (R:Int)).natAbs:Nat):Int)≤(((n+1)*2^1074:Nat):Int):=by
              rw [e1,e2]
              rw [e2] at hcase2
              clear hP hP2 hQ hR hZe e1 e2
              generalize (n:Int)*Z=y at *
              omega
            exact Int.ofNat_le.1 e4
          refine Nat.lt_of_le_of_lt hb1 ?_
          rw [show (2:Nat)^1127=2^53*2^1074 from by rw [← Nat.pow_add]]
          exact Nat.mul_lt_mul_of_pos_right (Nat.lt_of_lt_of_le hn6 (by decide)) (Nat.two_pow_pos _))
        exact ⟨z,hz,fz⟩
      obtain ⟨z,hz,fz⟩:=h9
      have hz2:z=w:=Option.some.inj (hz.symm.trans hr2)
      subst hz2
      have hRR:=zSi fr2 fz
      have hmono:=zCX 0 (show (((totC (negs xs) - 1:Nat):Int)*Z) - (R:Int)≤((totC (negs xs) - 1:Nat):Int)*Z by clear hP hP2 hQ hR hZe; omega)
      have hex:rndI 0 (((totC (negs xs) - 1:Nat):Int)*Z)=((totC (negs xs) - 1:Nat):Int)*Z:=by
        rw [hZe]; exact zB1 _ _ (by rw [Int.natAbs_natCast]; clear hP hP2 hQ hR hZe; omega)
      rw [hex,← hRR] at hmono
      rw [hnn,Nat.add_sub_cancel] at hmono
      rw [hnn,Int.natCast_add,Int.add_mul]
      show R2<(n:Int)*Z+1*Z
      rw [Int.one_mul]
      clear hP hP2 hQ hR hZe
      omega
    have hrk:FV (rk r2) (max R2 0):=by
      have h:=zBD fr2 zA0
      have h':(FloatKind.f64.format.order r2 0 == some .lt)=decide (R2<0):=h
      unfold rk
      rw [h']
      by_cases c:R2<0
      · rw [decide_eq_true c,if_pos rfl,show max R2 0=0 from by clear hP hP2 hQ hR hZe; omega]; exact zA0
      · rw [decide_eq_false c,if_neg (by decide),show max R2 0=R2 from by clear hP hP2 hQ hR hZe; omega]; exact fr2
    have hrf:∀ k,zB5 (cntB (zAQ idx xs)) (rk r2) k→zEY (cntB (zAQ idx xs)) (tot (zAQ idx xs)) r2 k:=fun k hk=>by
      refine ⟨?_,?_,?_,hk⟩
      · show fgt (nf 0) (rk r2)=false
        rw [zBa (hZ 0 (by decide)) hrk,decide_eq_false_iff_not,Int.natCast_zero,Int.zero_mul]
        clear hP hP2 hQ hR hZe; omega
      · show fgt (nf (tot (zAQ idx xs))) (rk r2)=true
        rw [t2,zBa fG hrk,decide_eq_true_eq]
        have h0':0<((totC (negs xs):Nat):Int)*Z:=Int.mul_pos (Int.natCast_pos.2 hn0) hZ0
        clear hP hP2 hQ hR hZe; omega
      · intro hneg m hm0 hm1
        have h':(FloatKind.f64.format.order r2 0 == some .lt)=decide (R2<0):=zBD fr2 zA0
        rw [h',decide_eq_true_eq] at hneg
        have h0':0<(m:Int)*Z:=Int.mul_pos (Int.natCast_pos.2 hm0) hZ0
        constructor
        · show fgt (nf m) 0=true
          rw [zBa (hZ m hm1) zA0,decide_eq_true_eq]; exact h0'
        · show fgt (nf m) r2=true
          rw [zBa (hZ m hm1) fr2,decide_eq_true_eq]
          clear hP hP2 hQ hR hZe; omega
    have hsel:∀ L:Items,L.Perm xs→Srt L→∃ q∈L,valF r2 0 (negs L).reverse=q.1∧vI q.1<0∧zB5 (cntB (zAQ idx xs)) (rk r2) (kfN idx q):=fun L hp hs =>
      zWI hm hi hp hs hx hZ hZ0 (by clear hP hP2 hQ hR hZe; omega) fr2 hR2 hn0 hrk
    have htell:∀ q∈xs,vI q.1<0→∃ V,idx (negF q.1)=some (kfN idx q)∧value (kfN idx q)=some V∧zKG p V (negF q.1)∧vI q.1 = -((rvN (negF q.1):Nat):Int)∧4517329193108106637≤negF q.1∧negF q.1≤4696837146684686336:=fun q hq h=>by
      obtain ⟨i,e,-,-⟩:=zIu hi (hx q hq) h
      obtain ⟨-,hc⟩:=zAx (hx q hq).lt (hx q hq).fits
      rcases hc with ⟨h0,-⟩ | ⟨h0,-⟩ | ⟨-,-,c1,c2,c3,c4⟩
      · clear hP hP2 hQ hR hZe; omega
      · clear hP hP2 hQ hR hZe; omega
      · rw [← c4] at c1 c2 c3
        obtain ⟨i',V,e1,e2,e3⟩:=ht _ c1 c2
        have ek:kfN idx q=i':=by unfold kfN; rw [e1]; rfl
        exact ⟨V,by rw [ek]; exact e1,by rw [ek]; exact e2,e3,c3,c1,c2⟩
    obtain ⟨g0,hg0,-,hgn,hgk⟩:=hsel L0 hp0 hs0
    obtain ⟨V,-,hV,-⟩:=htell g0 ((hLall L0 hp0).2.2 g0 hg0) hgn
    refine ⟨negF V,⟨q0,q1,by rw [hsplit]; exact hc1,r,by rw [hsplit]; exact hr,.inl ⟨by rw [t2]; exact hflt1,_,r2,_,V,by rw [t2]; exact hr1',hr2,hrf _ hgk,hV,rfl⟩⟩,fin _ fun L hp hs lo hi' he=>?_⟩
    obtain ⟨-,e2,-⟩:=hLall L hp
    refine ⟨fun _=>?_,?_⟩
    · cases hL:negs L with
      | nil=>rw [hL] at e2; have:totC ([]:Items)=0:=rfl; clear hP hP2 hQ hR hZe; omega
      | cons=>exact Nat.succ_pos _
    · have eq:zDs L r r2=valF r2 0 (negs L).reverse:=by unfold zDs; rw [e2,if_pos hflt1]
      obtain ⟨q',hq',f1,f2,f3⟩:=hsel L hp hs
      have hqx:=(hLall L hp).2.2 q' hq'
      obtain ⟨V',k1,k2,k3,k4,k5,k6⟩:=htell q' hqx f2
      rw [f3.unique hgk,hV] at k2
      cases k2
      obtain ⟨a,b,fa,fb,hab⟩:=zNQ he hne
      obtain ⟨l1,l2⟩:=hab q' hqx
      rw [eq,f1]
      have fW:=zHB (zDP k3.1 (Nat.lt_trans k3.2.1 (by decide)))
      have fv:=(zAx (hx q' hqx).lt (hx q' hqx).fits).1
      rw [k4] at fv l1 l2
      obtain ⟨y1,y2⟩:=zBO (x:=negF q'.1) (Nat.le_trans (by decide) k5) (Nat.le_trans k6 (by decide))
      refine zIR fW fv fa fb l1 l2 hpt ?_ hP hP2 (by rw [Int.natAbs_neg,Int.natAbs_natCast]; exact y1) (by rw [Int.natAbs_neg,Int.natAbs_natCast]; exact y2) p1 p2
      have h9:=zH0 k3 p2
      rw [show (-((rvN V:Nat):Int) - -((rvN (negF q'.1):Nat):Int)) = -(((rvN V:Nat):Int) - ((rvN (negF q'.1):Nat):Int)) from by clear hP hP2 hQ hR hZe h9 y1 y2; omega,Int.natAbs_neg,Int.natAbs_neg,Int.natAbs_natCast]
      exact h9
  · have hnf:flt r (nf (totC (negs xs)))=false:=by rw [hflt,decide_eq_false_iff_not]; exact hcase
    have hqv:∀ L:Items,L.Perm xs→(flt r (nf (totC (negs L)))=true→0<(negs L).length)∧zDs L r r2=valF r 0 L:=fun L hp=>by
      obtain ⟨-,e2,-⟩:=hLall L hp
      unfold zDs
      rw [e2,hnf]
      exact ⟨fun h=>(by cases h),by rw [if_neg (by decide)]⟩
    have hcase':=Int.not_lt.1 hcase
    by_cases hcz:(R:Int)<((totC (negs xs)+zAd xs:Nat):Int)*Z
    · refine ⟨0,?_,fin 0 fun L hp hs lo hi' he=>?_⟩
      · refine ⟨q0,q1,by rw [hsplit]; exact hc1,r,by rw [hsplit]; exact hr,.inr (.inl ⟨by rw [t2]; exact hnf,?_,rfl⟩)⟩
        rw [t2,Nat.add_comm,zBD fr (hZ _ (by clear hP hP2 hQ hR hZe; omega)),decide_eq_true_eq]
        exact hcz
      · obtain ⟨h1,h2⟩:=hqv L hp
        obtain ⟨q',hq',e1,e2⟩:=zU1 hp hs hZ hZ0 (by clear hP hP2 hQ hR hZe; omega) fr hcz hcase' (by clear hP hP2 hQ hR hZe; omega)
        have hqx:=(hLall L hp).2.2 q' hq'
        obtain ⟨a,b,fa,fb,hab⟩:=zNQ he hne
        obtain ⟨l1,l2⟩:=hab q' hqx
        have ec:zBj lo hi' 0=0:=by
          unfold zBj
          rw [zBD zA0 fa,zBa zA0 fb,decide_eq_false (show ¬ (0:Int)<a by clear hP hP2 hQ hR hZe; omega),decide_eq_false (show ¬ b<(0:Int) by clear hP hP2 hQ hR hZe; omega)]
          rfl
        have fv:=(zAx (hx q' hqx).lt (hx q' hqx).fits).1
        rw [e2] at fv
        refine ⟨h1,?_⟩
        rw [h2,e1,ec]
        exact zHD zA0 fv hpt (Nat.zero_le _) (Nat.le_trans hP2 (Nat.pow_le_pow_right (by decide) (by decide)))
    · have hcz':=Int.not_lt.1 hcz
      have hzR:zAd xs*2^1074≤R:=by
        have h1:=Int.le_trans (z_le hZ0 (show zAd xs≤totC (negs xs)+zAd xs from Nat.le_add_left _ _)) hcz'
        rw [hZe] at h1
        refine Int.ofNat_le.1 ?_
        rw [Int.natCast_mul,Int.natCast_pow]
        exact h1
      have hzle:zAd xs<1000000000:=by clear hP hP2 hQ hR hZe hzR; omega
      have hRbig:R≤1000000000*2^1074:=Nat.le_trans hR (Nat.mul_le_mul_right _ (by clear hP hP2 hQ hR hZe hzR; omega))
      obtain ⟨s1,hs1,fs1⟩:=zJL fr hzle hzR hRbig
      have hall:(totC (negs xs)+zAd xs)*2^1074≤R:=by
        have h1:=hcz'
        rw [hZe] at h1
        refine Int.ofNat_le.1 ?_
        rw [Int.natCast_mul,Int.natCast_pow]
        exact h1
      have hnR:totC (negs xs)*2^1074≤R - zAd xs*2^1074:=Nat.le_sub_of_add_le (by rw [← Nat.add_mul]; exact hall)
      obtain ⟨s2,hs2,fs2⟩:=zJL fs1 (by clear hP hP2 hQ hR hZe hzR hall hnR hRbig; omega) hnR (Nat.le_trans (Nat.sub_le _ _) hRbig)
      have ev:((R - zAd xs*2^1074 - totC (negs xs)*2^1074:Nat):Int)=(R:Int) - ((totC (negs xs)+zAd xs:Nat):Int)*Z:=by
        rw [Nat.sub_sub,← Nat.add_mul,Nat.add_comm (zAd xs),Int.ofNat_sub hall,Int.natCast_mul,Int.natCast_pow,hZe]; rfl
      rw [ev] at fs2
      have hsub0:0≤(R:Int) - ((totC (negs xs)+zAd xs:Nat):Int)*Z:=Int.sub_nonneg_of_le hcz'
      have hlt0:(FloatKind.f64.format.order s2 0 == some .lt)=false:=by
        have h:(FloatKind.f64.format.order s2 0 == some .lt)=decide ((R:Int) - ((totC (negs xs)+zAd xs:Nat):Int)*Z<0):=zBD fs2 zA0
        rw [h,decide_eq_false_iff_not]
        exact Int.not_lt.2 hsub0
      have hrk:rk s2=s2:=by unfold rk; rw [hlt0,if_neg (by decide)]
      have hrf:∀ k,zB5 (cntB (zAP idx xs)) s2 k→zEY (cntB (zAP idx xs)) (tot (zAP idx xs)) s2 k:=fun k hk=>by
        refine ⟨?_,?_,fun h=>?_,by rw [hrk]; exact hk⟩
        · rw [hrk]
          show fgt (nf 0) s2=false
          rw [zBa (hZ 0 (by decide)) fs2,decide_eq_false_iff_not,Int.natCast_zero,Int.zero_mul]
          exact Int.not_lt.2 hsub0
        · rw [hrk]
          show fgt (nf (tot (zAP idx xs))) s2=true
          rw [zBa (hZ _ (by clear hP hP2 hQ hR hZe hzR hall hnR hRbig; omega)) fs2,decide_eq_true_eq]
          have h9:=hRN
          rw [t1,Int.natCast_add,Int.add_mul] at h9
          exact Int.sub_left_lt_of_lt_add h9
        · rw [hlt0] at h; cases h
      have hsel:∀ L:Items,L.Perm xs→Srt L→∃ j,∃ h:j<L.length,valF r 0 L=L[j].1∧0<vI L[j].1∧zB5 (cntB (zAP idx xs)) s2 (kfP idx L[j]):=fun L hp hs =>
        zWH hm hi hp hs hx hZ hZ0 (by clear hP hP2 hQ hR hZe hzR hall hnR hRbig; omega) fr hRN hcz' fs2
      have htell:∀ q∈xs,0<vI q.1→∃ V,idx q.1=some (kfP idx q)∧value (kfP idx q)=some V∧zKG p V q.1∧vI q.1=((rvN q.1:Nat):Int)∧4517329193108106637≤q.1∧q.1≤4696837146684686336:=fun q hq h=>by
        obtain ⟨-,hc⟩:=zAx (hx q hq).lt (hx q hq).fits
        rcases hc with ⟨h0,-⟩ | ⟨-,c1,c2,c3⟩ | ⟨h0,-⟩
        · clear hP hP2 hQ hR hZe hzR hall hnR hRbig; omega
        · obtain ⟨i',V,e1,e2,e3⟩:=ht _ c1 c2
          have ek:kfP idx q=i':=by unfold kfP; rw [if_pos h,e1]; rfl
          exact ⟨V,by rw [ek]; exact e1,by rw [ek]; exact e2,e3,c3,c1,c2⟩
        · clear hP hP2 hQ hR hZe hzR hall hnR hRbig; omega
      obtain ⟨j0,hj0,-,hgn,hgk⟩:=hsel L0 hp0 hs0
      obtain ⟨V,-,hV,-⟩:=htell _ ((hLall L0 hp0).2.2 _ (List.getElem_mem hj0)) hgn
      refine ⟨V,⟨q0,q1,by rw [hsplit]; exact hc1,r,by rw [hsplit]; exact hr,.inr (.inr ⟨by rw [t2]; exact hnf,?_,s1,s2,_,hs1,by rw [t2]; exact hs2,hrf _ hgk,hV⟩)⟩,fin _ fun L hp hs lo hi' he=>?_⟩
      · rw [t2,Nat.add_comm,zBD fr (hZ _ (by clear hP hP2 hQ hR hZe hzR hall hnR hRbig; omega)),decide_eq_false_iff_not]
        exact hcz
      · obtain ⟨h1,h2⟩:=hqv L hp
        obtain ⟨j,hj,f1,f2,f3⟩:=hsel L hp hs
        have hqx:=(hLall L hp).2.2 _ (List.getElem_mem hj)
        obtain ⟨V',k1,k2,k3,k4,k5,k6⟩:=htell _ hqx f2
        rw [f3.unique hgk,hV] at k2
        cases k2
        obtain ⟨a,b,fa,fb,hab⟩:=zNQ he hne
        obtain ⟨l1,l2⟩:=hab _ hqx
        refine ⟨h1,?_⟩
        rw [h2,f1]
        have fW:=zDP k3.1 (Nat.lt_trans k3.2.1 (by decide))
        have fv:=(zAx (hx _ hqx).lt (hx _ hqx).fits).1
        rw [k4] at fv l1 l2
        obtain ⟨y1,y2⟩:=zBO (x:=L[j].1) (Nat.le_trans (by decide) k5) (Nat.le_trans k6 (by decide))
        exact zIR fW fv fa fb l1 l2 hpt (by rw [Int.natAbs_natCast]; exact zH0 k3 p2) hP hP2 (by rw [Int.natAbs_natCast]; exact y1) (by rw [Int.natAbs_natCast]; exact y2) p1 p2
end Go.Proofs.YtllaekopaglolaaGreat
end
/-
  impl.asked: what a sketch that is made says. (Printed by gen_asked.py.)
-/
section
namespace Go.Proofs.YtllaekopaglolaaGreat
open Go.RowKit
def zNh (l:List (Nat × Value × TypeId)) (w:World):Prop:=∀ q∈l,w.heap[q.1]?=some (.cells #[q.2.1] q.2.2 (0,0))
theorem zNh.set {l:List (Nat × Value × TypeId)} {w:World} (h:zNh l w) (hd:∀ q∈l,∀ r∈l,q.1=r.1→q=r) {q:Nat × Value × TypeId} (hq:q∈l):zNh l (w.setCell ⟨q.1,0,none⟩ q.2.1):=by
  intro r hr
  by_cases e:r.1=q.1
  · have:=hd r hr q hq e
    subst this
    exact one_setCell (h r hr)
  · exact (heap_setCell_other _ _ _ _ e).trans (h r hr)
theorem zNh.fr {l:List (Nat × Value × TypeId)} {w w':World} {S:Nat→Prop} (h:zNh l w) (hf:Fr S w w') (hn:∀ q∈l,¬ S q.1):zNh l w':=fun q hq=>hf.heap (h q hq) (hn q hq)
structure zBX (l:List (Nat × Value × TypeId)) (gv n:Nat) (f:Nat→Nat) (w w':World):Prop where
  bx:zNh l w'
  row:FRow w' gv n f
  ne:∀ q∈l,q.1≠gv
  ds:∀ q∈l,∀ r∈l,q.1=r.1→q=r
  lo:∀ q∈l,w.heap.size≤q.1
  below:Below w.heap.size w w'
theorem zBX.set {l:List (Nat × Value × TypeId)} {gv n:Nat} {f:Nat→Nat} {w w':World} (h:zBX l gv n f w w') {q:Nat × Value × TypeId} (hq:q∈l):zBX l gv n f w (w'.setCell ⟨q.1,0,none⟩ q.2.1) :=
  ⟨h.bx.set h.ds hq,h.row.fr ((show Fr (fun b=>b=q.1) w' w' from Fr.refl _ _).setCell (p:=⟨q.1,0,none⟩) (fun _=>rfl) q.2.1) (fun e=>h.ne q hq (Eq.symm e)),h.ne,h.ds,h.lo,h.below.setCell (h.lo q hq) _⟩
theorem zBX.drew {l:List (Nat × Value × TypeId)} {gv n:Nat} {f:Nat→Nat} {w w':World} (h:zBX l gv n f w w'):zBX l gv n f w w'.drew:=⟨h.bx,h.row,h.ne,h.ds,h.lo,h.below.drew⟩
def zBA (p2 p3 p4 p5 p6 p7:Nat) (v:Value) (c x lo hi:Nat):List (Nat × Value × TypeId):=[(p2,v,23),(p3,.float .f64 c,29),(p4,.float .f64 x,29),(p5,.float .f64 lo,29),(p6,.float .f64 hi,29),(p7,.bool true,4)]
abbrev AskS (p2 p3 p4 p5 p6 p7:Nat) (v:Value) (c x lo hi gv n:Nat) (f:Nat→Nat) (w w':World):Prop :=
  (w'.cell? ⟨p2,0,none⟩=some v∧w'.cell? ⟨p3,0,none⟩=some (.float .f64 c)∧w'.cell? ⟨p4,0,none⟩=some (.float .f64 x)∧w'.cell? ⟨p5,0,none⟩=some (.float .f64 lo)∧w'.cell? ⟨p6,0,none⟩=some (.float .f64 hi)∧w'.cell? ⟨p7,0,none⟩=some (.bool true)) ∧
  (w'.frozen? ⟨p2,0,none⟩=false∧w'.frozen? ⟨p3,0,none⟩=false∧w'.frozen? ⟨p4,0,none⟩=false∧w'.frozen? ⟨p5,0,none⟩=false∧w'.frozen? ⟨p6,0,none⟩=false∧w'.frozen? ⟨p7,0,none⟩=false)∧zBX (zBA p2 p3 p4 p5 p6 p7 v c x lo hi) gv n f w w'
theorem zBX.told {p2 p3 p4 p5 p6 p7:Nat} {v:Value} {c x lo hi gv n:Nat} {f:Nat→Nat} {w w':World} (h:zBX (zBA p2 p3 p4 p5 p6 p7 v c x lo hi) gv n f w w'):AskS p2 p3 p4 p5 p6 p7 v c x lo hi gv n f w w':=by
  have h2:=h.bx (p2,v,23) (by simp [zBA])
  have h3:=h.bx (p3,.float .f64 c,29) (by simp [zBA])
  have h4:=h.bx (p4,.float .f64 x,29) (by simp [zBA])
  have h5:=h.bx (p5,.float .f64 lo,29) (by simp [zBA])
  have h6:=h.bx (p6,.float .f64 hi,29) (by simp [zBA])
  have h7:=h.bx (p7,.bool true,4) (by simp [zBA])
  exact ⟨⟨cell_of_one h2,cell_of_one h3,cell_of_one h4,cell_of_one h5,cell_of_one h6,cell_of_one h7⟩,⟨free_of_one h2,free_of_one h3,free_of_one h4,free_of_one h5,free_of_one h6,free_of_one h7⟩,h⟩
def zJH (B:Rat) (xs:Items) (outs:List Nat) (w:World) (e:Ending) (w':World):Prop :=
  ∃ c s k l lo hi x gv,e = .returned (.tuple #[.slice (some ⟨gv,0,none⟩) outs.length outs.length,.float .f64 c,.float .f64 x,.float .f64 lo,.float .f64 hi,.bool true])∧zGX B xs c s k l lo hi∧fadd s k=some x∧FRow w' gv outs.length (fun i=>zBj lo hi (outs.getD i 0))∧Below w.heap.size w w'
section
variable {kind mk:Int} {K:zAD kind} {of_:Nat→Option (Nat × Nat × Nat × Nat × Nat)} {acc:Nat→Option Nat} {idx:Nat→Nat→Nat→Option Int} {lower:Nat→Nat→Int→Option Nat} {value:Nat→Nat→Nat→Int→Option Nat}
set_option maxRecDepth 100000 in
set_option maxHeartbeats 2000000 in
theorem zTO (Q:zCJ K) (M:zBK mk of_ acc idx lower value) (most:Int) (g off mult mn mx cp:Nat) (B:Rat) (xs:Items) (fF:FuncId) (caps:Array Value) (ao:Option Addr) (qs outs:List Nat) (w:World)
   (eF:∀ args w,(callFunc fF args).run Tryz.prog w = .ok (.enter fF args) w) (hF:∀ w',Below w.heap.size w w'→Calls Tryz.prog fF caps w' fun e w''=>zJD K M most g off mult mn mx B xs w' e w'')
   (hq:LieN w ao qs) (hn:qs.length≤1000000) (hl:outs.length=qs.length)
   (hp:Few kind most (zAP (idx off mult) xs)) (hng:Few kind most (zAQ (idx off mult) xs)) (hz:zAd xs<1000000) (hcc:0<zAd xs+tot (zAP (idx off mult) xs)+tot (zAQ (idx off mult) xs))
   (hA:∀ k,(hk:k<qs.length)→zKJ (value g off mult) (zAP (idx off mult) xs) (zAQ (idx off mult) xs) (zAd xs) qs[k] (outs.getD k 0)) :
    Calls Tryz.prog 14 #[.slice ao qs.length cp,.func (.func fF) #[] caps] w fun e w'=>zJH B xs outs w e w':=by
  have hmf:∀ (fn:Fn) (first cap:Array Value) (w:World),(Instr.makeFunc fn first cap).run Tryz.prog w = .ok (.func fn first cap) w:=fun _ _ _ _=>rfl
  have f0:=zBH (w:=w) (o:=.cells #[.slice ao qs.length cp] 23) rfl
  have s0:=zA1 (w:=w) (o:=.cells #[.slice ao qs.length cp] 23) rfl
  have b0:Below w.heap.size w (w.alloc (.cells #[.slice ao qs.length cp] 23)):=(Below.refl _ w).alloc (Nat.le_refl _) _
  obtain ⟨W0,hW0⟩:∃ W,W=w.alloc (.cells #[.slice ao qs.length cp] 23):=⟨_,rfl⟩
  rw [← hW0] at f0 s0 b0
  have f1:=zBH (w:=W0) (o:=.cells #[.func (.func fF) #[] caps] 47) s0
  have s1:=zA1 (w:=W0) (o:=.cells #[.func (.func fF) #[] caps] 47) s0
  replace f0:=zAI (o:=.cells #[.func (.func fF) #[] caps] 47) f0
  have b1:Below w.heap.size w (W0.alloc (.cells #[.func (.func fF) #[] caps] 47)):=b0.alloc (by omega) _
  obtain ⟨W1,hW1⟩:∃ W,W=W0.alloc (.cells #[.func (.func fF) #[] caps] 47):=⟨_,rfl⟩
  rw [← hW1] at f0 f1 s1 b1
  have f2:=zBH (w:=W1) (o:=.cells #[.slice none 0 0] 23) s1
  have s2:=zA1 (w:=W1) (o:=.cells #[.slice none 0 0] 23) s1
  replace f0:=zAI (o:=.cells #[.slice none 0 0] 23) f0
  replace f1:=zAI (o:=.cells #[.slice none 0 0] 23) f1
  have b2:Below w.heap.size w (W1.alloc (.cells #[.slice none 0 0] 23)):=b1.alloc (by omega) _
  obtain ⟨W2,hW2⟩:∃ W,W=W1.alloc (.cells #[.slice none 0 0] 23):=⟨_,rfl⟩
  rw [← hW2] at f0 f1 f2 s2 b2
  have f3:=zBH (w:=W2) (o:=.cells #[.float .f64 0] 29) s2
  have s3:=zA1 (w:=W2) (o:=.cells #[.float .f64 0] 29) s2
  replace f0:=zAI (o:=.cells #[.float .f64 0] 29) f0
  replace f1:=zAI (o:=.cells #[.float .f64 0] 29) f1
  replace f2:=zAI (o:=.cells #[.float .f64 0] 29) f2
  have b3:Below w.heap.size w (W2.alloc (.cells #[.float .f64 0] 29)):=b2.alloc (by omega) _
  obtain ⟨W3,hW3⟩:∃ W,W=W2.alloc (.cells #[.float .f64 0] 29):=⟨_,rfl⟩
  rw [← hW3] at f0 f1 f2 f3 s3 b3
  have f4:=zBH (w:=W3) (o:=.cells #[.float .f64 0] 29) s3
  have s4:=zA1 (w:=W3) (o:=.cells #[.float .f64 0] 29) s3
  replace f0:=zAI (o:=.cells #[.float .f64 0] 29) f0
  replace f1:=zAI (o:=.cells #[.float .f64 0] 29) f1
  replace f2:=zAI (o:=.cells #[.float .f64 0] 29) f2
  replace f3:=zAI (o:=.cells #[.float .f64 0] 29) f3
  have b4:Below w.heap.size w (W3.alloc (.cells #[.float .f64 0] 29)):=b3.alloc (by omega) _
  obtain ⟨W4,hW4⟩:∃ W,W=W3.alloc (.cells #[.float .f64 0] 29):=⟨_,rfl⟩
  rw [← hW4] at f0 f1 f2 f3 f4 s4 b4
  have f5:=zBH (w:=W4) (o:=.cells #[.float .f64 0] 29) s4
  have s5:=zA1 (w:=W4) (o:=.cells #[.float .f64 0] 29) s4
  replace f0:=zAI (o:=.cells #[.float .f64 0] 29) f0
  replace f1:=zAI (o:=.cells #[.float .f64 0] 29) f1
  replace f2:=zAI (o:=.cells #[.float .f64 0] 29) f2
  replace f3:=zAI (o:=.cells #[.float .f64 0] 29) f3
  replace f4:=zAI (o:=.cells #[.float .f64 0] 29) f4
  have b5:Below w.heap.size w (W4.alloc (.cells #[.float .f64 0] 29)):=b4.alloc (by omega) _
  obtain ⟨W5,hW5⟩:∃ W,W=W4.alloc (.cells #[.float .f64 0] 29):=⟨_,rfl⟩
  rw [← hW5] at f0 f1 f2 f3 f4 f5 s5 b5
  have f6:=zBH (w:=W5) (o:=.cells #[.float .f64 0] 29) s5
  have s6:=zA1 (w:=W5) (o:=.cells #[.float .f64 0] 29) s5
  replace f0:=zAI (o:=.cells #[.float .f64 0] 29) f0
  replace f1:=zAI (o:=.cells #[.float .f64 0] 29) f1
  replace f2:=zAI (o:=.cells #[.float .f64 0] 29) f2
  replace f3:=zAI (o:=.cells #[.float .f64 0] 29) f3
  replace f4:=zAI (o:=.cells #[.float .f64 0] 29) f4
  replace f5:=zAI (o:=.cells #[.float .f64 0] 29) f5
  have b6:Below w.heap.size w (W5.alloc (.cells #[.float .f64 0] 29)):=b5.alloc (by omega) _
  obtain ⟨W6,hW6⟩:∃ W,W=W5.alloc (.cells #[.float .f64 0] 29):=⟨_,rfl⟩
  rw [← hW6] at f0 f1 f2 f3 f4 f5 f6 s6 b6
  have f7:=zBH (w:=W6) (o:=.cells #[.bool false] 4) s6
  have s7:=zA1 (w:=W6) (o:=.cells #[.bool false] 4) s6
  replace f0:=zAI (o:=.cells #[.bool false] 4) f0
  replace f1:=zAI (o:=.cells #[.bool false] 4) f1
  replace f2:=zAI (o:=.cells #[.bool false] 4) f2
  replace f3:=zAI (o:=.cells #[.bool false] 4) f3
  replace f4:=zAI (o:=.cells #[.bool false] 4) f4
  replace f5:=zAI (o:=.cells #[.bool false] 4) f5
  replace f6:=zAI (o:=.cells #[.bool false] 4) f6
  have b7:Below w.heap.size w (W6.alloc (.cells #[.bool false] 4)):=b6.alloc (by omega) _
  obtain ⟨W7,hW7⟩:∃ W,W=W6.alloc (.cells #[.bool false] 4):=⟨_,rfl⟩
  rw [← hW7] at f0 f1 f2 f3 f4 f5 f6 f7 s7 b7
  have fz:=zBH (w:=W7) (o:=.cells #[.bool false] 4) s7
  replace f0:=zAI (o:=.cells #[.bool false] 4) f0
  replace f1:=zAI (o:=.cells #[.bool false] 4) f1
  replace f2:=zAI (o:=.cells #[.bool false] 4) f2
  replace f3:=zAI (o:=.cells #[.bool false] 4) f3
  replace f4:=zAI (o:=.cells #[.bool false] 4) f4
  replace f5:=zAI (o:=.cells #[.bool false] 4) f5
  replace f6:=zAI (o:=.cells #[.bool false] 4) f6
  replace f7:=zAI (o:=.cells #[.bool false] 4) f7
  have bz:Below w.heap.size w (W7.alloc (.cells #[.bool false] 4)):=b7.alloc (by omega) _
  have lz:LieN (W7.alloc (.cells #[.bool false] 4)) ao qs:=by
    rcases hq with h0 | ⟨gq,oq,e,hc⟩
    · exact .inl h0
    · exact .inr ⟨gq,oq,e,fun i hi=>(bz.cell (World.block_lt_of_cell? w _ (hc i hi))).trans (hc i hi)⟩
  have sz:(W7.alloc (.cells #[.bool false] 4)).heap.size=w.heap.size+9:=by rw [World.size_alloc,s7]
  have HIN:=zQ4 Q M most g off mult mn mx cp B xs fF caps ao qs outs (w.heap.size+1) w.heap.size (w.heap.size+1+1) (w.heap.size+1+1+1) (w.heap.size+1+1+1+1) (w.heap.size+1+1+1+1+1) (w.heap.size+1+1+1+1+1+1) (w.heap.size+1+1+1+1+1+1+1) (W7.alloc (.cells #[.bool false] 4)) eF (hF _ bz) (cell_of_one f1) (cell_of_one f0) lz hn hl f2 f3 f4 f5 f6 f7 ⟨by omega,by omega,by omega,by omega,by omega,by omega,by omega,by omega,by omega,by omega,by omega,by omega,by omega,by omega,by omega⟩ hp hng hz hcc hA
  have H:=zG1 28 #[.pointer (some ⟨w.heap.size+1,0,none⟩),.pointer (some ⟨w.heap.size,0,none⟩),.pointer (some ⟨w.heap.size+1+1,0,none⟩),.pointer (some ⟨w.heap.size+1+1+1,0,none⟩),.pointer (some ⟨w.heap.size+1+1+1+1,0,none⟩),.pointer (some ⟨w.heap.size+1+1+1+1+1,0,none⟩),.pointer (some ⟨w.heap.size+1+1+1+1+1+1,0,none⟩),.pointer (some ⟨w.heap.size+1+1+1+1+1+1+1,0,none⟩)] W7
    (fun w1=>∃ c s k l lo hi x gv,zGX B xs c s k l lo hi∧fadd s k=some x∧zBX (zBA (w.heap.size+1+1) (w.heap.size+1+1+1) (w.heap.size+1+1+1+1) (w.heap.size+1+1+1+1+1) (w.heap.size+1+1+1+1+1+1) (w.heap.size+1+1+1+1+1+1+1) (.slice (some ⟨gv,0,none⟩) outs.length outs.length) c x lo hi) gv outs.length (fun i=>zBj lo hi (outs.getD i 0)) w w1∧gv≠w.heap.size+1+1+1+1+1+1+1+1)
    (fun w=>zAf Tryz.func28 (by kernel_rfl) rfl _ w)
    (HIN.mono (by
      rintro e w1 ⟨rfl,c,s,k,l,lo,hi,x,gv,i1,i2,h2,hgv,hrow,h3,h4,h5,h6,h7,hfr⟩
      have h8:=hfr.heap fz (by omega)
      refine ⟨rfl,by rw [s7]; exact h8,c,s,k,l,lo,hi,x,gv,i1,i2,⟨?_,hrow,?_,?_,?_,bz.trans (hfr.below (B:=w.heap.size) (fun k h=>by omega) (by omega))⟩,by omega⟩
      · intro q hq
        simp only [zBA,List.mem_cons,List.not_mem_nil,or_false] at hq
        rcases hq with rfl | rfl | rfl | rfl | rfl | rfl
        · exact h2
        · exact h3
        · exact h4
        · exact h5
        · exact h6
        · exact h7
      · intro q hq
        simp only [zBA,List.mem_cons,List.not_mem_nil,or_false] at hq
        rcases hq with rfl | rfl | rfl | rfl | rfl | rfl <;> (dsimp only; omega)
      · intro q hq r hr e
        simp only [zBA,List.mem_cons,List.not_mem_nil,or_false] at hq hr
        rcases hq with rfl | rfl | rfl | rfl | rfl | rfl <;> rcases hr with rfl | rfl | rfl | rfl | rfl | rfl <;> first | rfl | (exfalso; dsimp only at e; omega)
      · intro q hq
        simp only [zBA,List.mem_cons,List.not_mem_nil,or_false] at hq
        rcases hq with rfl | rfl | rfl | rfl | rfl | rfl <;> (dsimp only; omega)))
  clear HIN f0 f1 f2 f3 f4 f5 f6 f7 fz bz lz sz s0 s1 s2 s3 s4 s5 s6 b0 b1 b2 b3 b4 b5 b6 b7 hq hF hp hng hz hcc hA hl
  go_enter Tryz.func14,Tryz.ntmps14
  go_wp2_with fail
  rw [← hW0,← hW1,← hW2,← hW3,← hW4,← hW5,← hW6,← hW7]
  refine H.mono ?_
  clear H hW0 hW1 hW2 hW3 hW4 hW5 hW6 hW7
  rintro e w2 ⟨rfl,w1,⟨c,s,k,l,lo,hi,x,gv,i1,i2,hh,hgv⟩,rfl⟩
  rw [s7]
  obtain ⟨hbx,hrow,hne,hds,hlo,hbl⟩:=hh
  have hfq:Fr (fun b=>b=w.heap.size+1+1+1+1+1+1+1+1) w1 (w1.setCell ⟨w.heap.size+1+1+1+1+1+1+1+1,0,none⟩ (.bool true)):=(show Fr (fun b=>b=w.heap.size+1+1+1+1+1+1+1+1) w1 w1 from Fr.refl _ _).setCell (p:=⟨w.heap.size+1+1+1+1+1+1+1+1,0,none⟩) (fun _=>rfl) _
  have hh2:zBX (zBA (w.heap.size+1+1) (w.heap.size+1+1+1) (w.heap.size+1+1+1+1) (w.heap.size+1+1+1+1+1) (w.heap.size+1+1+1+1+1+1) (w.heap.size+1+1+1+1+1+1+1) (.slice (some ⟨gv,0,none⟩) outs.length outs.length) c x lo hi) gv outs.length (fun i=>zBj lo hi (outs.getD i 0)) w (w1.setCell ⟨w.heap.size+1+1+1+1+1+1+1+1,0,none⟩ (.bool true)):=by
    refine ⟨hbx.fr hfq (fun q hq=>?_),hrow.fr hfq hgv,hne,hds,hlo,hbl.setCell (by dsimp only; omega) _⟩
    simp only [zBA,List.mem_cons,List.not_mem_nil,or_false] at hq
    rcases hq with rfl | rfl | rfl | rfl | rfl | rfl <;> (dsimp only; omega)
  clear hbx hrow hne hds hlo hbl hfq hgv s7
  revert hh2
  generalize w1.setCell ⟨w.heap.size+1+1+1+1+1+1+1+1,0,none⟩ (.bool true)=w3
  intro hh2
  obtain ⟨p2,hp2⟩:∃ p,w.heap.size+1+1=p:=⟨_,rfl⟩
  obtain ⟨p3,hp3⟩:∃ p,p2+1=p:=⟨_,rfl⟩
  obtain ⟨p4,hp4⟩:∃ p,p3+1=p:=⟨_,rfl⟩
  obtain ⟨p5,hp5⟩:∃ p,p4+1=p:=⟨_,rfl⟩
  obtain ⟨p6,hp6⟩:∃ p,p5+1=p:=⟨_,rfl⟩
  obtain ⟨p7,hp7⟩:∃ p,p6+1=p:=⟨_,rfl⟩
  rw [hp2] at hh2 ⊢
  rw [hp3] at hh2 ⊢
  rw [hp4] at hh2 ⊢
  rw [hp5] at hh2 ⊢
  rw [hp6] at hh2 ⊢
  rw [hp7] at hh2 ⊢
  have hms:=hh2.drew.told
  have c7:=hh2.told.1.2.2.2.2.2
  have HMH:=Lib.hid hh2
  have HP:=Lib.hid hp2
  have HI:=Lib.hid (And.intro i1 i2)
  clear hh2 hp2 hp3 hp4 hp5 hp6 hp7 i1 i2
  go_wp2
  have x2:=zBX.set HMH.out (q:=(p2,.slice (some ⟨gv,0,none⟩) outs.length outs.length,23)) (by simp [zBA])
  have y2:=x2.drew.told
  have x3:=zBX.set x2 (q:=(p3,.float .f64 c,29)) (by simp [zBA])
  have y3:=x3.drew.told
  have x4:=zBX.set x3 (q:=(p4,.float .f64 x,29)) (by simp [zBA])
  have y4:=x4.drew.told
  have x5:=zBX.set x4 (q:=(p5,.float .f64 lo,29)) (by simp [zBA])
  have y5:=x5.drew.told
  have x6:=zBX.set x5 (q:=(p6,.float .f64 hi,29)) (by simp [zBA])
  have y6:=x6.drew.told
  have x7:=zBX.set x6 (q:=(p7,.bool true,4)) (by simp [zBA])
  have y7:=x7.drew.told
  go_region_held3 (fun w'=>(w'.cell? ⟨p2,0,none⟩=some (.slice (some ⟨gv,0,none⟩) outs.length outs.length)∧w'.cell? ⟨p3,0,none⟩=some (.float .f64 c)∧w'.cell? ⟨p4,0,none⟩=some (.float .f64 x)∧w'.cell? ⟨p5,0,none⟩=some (.float .f64 lo)∧w'.cell? ⟨p6,0,none⟩=some (.float .f64 hi)∧w'.cell? ⟨p7,0,none⟩=some (.bool true))∧(w'.frozen? ⟨p2,0,none⟩=false∧w'.frozen? ⟨p3,0,none⟩=false∧w'.frozen? ⟨p4,0,none⟩=false∧w'.frozen? ⟨p5,0,none⟩=false∧w'.frozen? ⟨p6,0,none⟩=false∧w'.frozen? ⟨p7,0,none⟩=false)∧zBX (zBA p2 p3 p4 p5 p6 p7 (.slice (some ⟨gv,0,none⟩) outs.length outs.length) c x lo hi) gv outs.length (fun i=>zBj lo hi (outs.getD i 0)) w w')
    (first | (with_reducible exact hms) | (with_reducible exact y2) | (with_reducible exact y3) | (with_reducible exact y4) | (with_reducible exact y5) | (with_reducible exact y6) | (with_reducible exact y7))
    (fail)
  obtain ⟨⟨r2,r3,r4,r5,r6,r7⟩,-,hfin⟩:=y7
  have HFIN:=Lib.hid hfin
  clear hfin hms x2 x3 x4 x5 x6 x7 y2 y3 y4 y5 y6
  go_wp2
  refine bodyPost_ret (v:=.tuple #[.slice (some ⟨gv,0,none⟩) outs.length outs.length,.float .f64 c,.float .f64 x,.float .f64 lo,.float .f64 hi,.bool true]) (by simp only [results,Tryz.results14]; simp [go_sem,r2,r3,r4,r5,r6,r7]) rfl ?_
  exact ⟨c,s,k,l,lo,hi,x,gv,rfl,HI.out.1,HI.out.2,HFIN.out.row,HFIN.out.below⟩
end
end Go.Proofs.YtllaekopaglolaaGreat
end
