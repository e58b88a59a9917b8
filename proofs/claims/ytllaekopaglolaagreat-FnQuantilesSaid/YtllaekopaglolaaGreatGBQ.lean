/-
  The law of quantiles,plainly: what right and impl.Quantiles want.
-/
import Derived.Test.YtllaekopaglolaaGreatGBM
import Derived.Test.YtllaekopaglolaaGreatGBJ
import Derived.Test.YtllaekopaglolaaGreatGBN
import Derived.Test.YtllaekopaglolaaGreatGBP
import Derived.Test.YtllaekopaglolaaGreatGAM
import Derived.Test.YtllaekopaglolaaGreatGBH
import Derived.Test.YtllaekopaglolaaGreatGBD
import Derived.Test.YtllaekopaglolaaGreatProg
import Derived.Test.YtllaekopaglolaaGreatGAA
import Derived.Deep.LoopGhost
import Derived.Deep.DeepMust
import Derived.Test.YtllaekopaglolaaGreatGBC
section
namespace Go.Proofs.YtllaekopaglolaaGreat
open Go.RowKit
set_option exponentiation.threshold 5000
theorem mono_of {of_:Nat→Option (Nat × Nat × Nat × Nat × Nat)} {acc:Nat→Option Nat} {idx:Nat→Nat→Nat→Option Int} {lower:Nat→Nat→Int→Option Nat} {value:Nat→Nat→Nat→Int→Option Nat} {p:Nat} (ok:MapOk of_ acc idx lower value p) :
    ∃ a g off mult mn mx part x,fdiv (floatOfInt .f64 p) 4636737291354636288=some a∧of_ a=some (g,off,mult,mn,mx)∧Bnd mn mx∧fmul a 4607182418804521008=some x∧fadd x 4427486594234968593=some part∧partOk p part=true ∧
      IdxOk (idx off mult)∧MonoI (idx off mult)∧TellsS (idx off mult) (value g off mult) p:=by
  obtain ⟨a,g,off,mult,mn,mx,ra,part,x,o1,o2,-,-,⟨b1,b2⟩,o5,o6,o7,o8,o9,tells⟩:=ok
  refine ⟨a,g,off,mult,mn,mx,part,x,o1,o2,⟨b1,b2,o5,o6⟩,o7,o8,o9,fun v h1 h2=>?_,fun v w h1 h2 h3=>?_,fun v h1 h2=>?_⟩
  · obtain ⟨-,-,i,j,ei,ej,hij,l1,l2⟩:=tells v v h1 (Nat.le_refl _) h2
    rw [ei] at ej
    cases ej
    exact ⟨i,ei,l1,l2⟩
  · obtain ⟨-,-,i,j,ei,ej,hij,-,-⟩:=tells v w h1 h2 h3
    exact ⟨i,j,ei,ej,hij⟩
  · obtain ⟨⟨i,V,b,b',s,t,e1,e2,-,-,-,-,-,-,-,e3⟩,-⟩:=tells v v h1 (Nat.le_refl _) h2
    exact ⟨i,V,e1,e2,e3⟩
theorem absI_le {xs:Items} (h:∀ q∈xs,ItemOk q):absI xs≤((2^1098*100*xs.length:Nat):Int):=by
  induction xs with
  | nil=>exact Int.natCast_nonneg _
  | cons q t ih =>
    have h1:=ih (fun q hq=>h q (List.mem_cons_of_mem _ hq))
    have h2:=eI_bound (h q List.mem_cons_self)
    show (((eI q).natAbs:Nat):Int)+absI t≤_
    rw [List.length_cons,Nat.mul_add,Nat.mul_one,Int.natCast_add]
    generalize 2^1098*100*t.length=a at *
    generalize 2^1098*100=b at *
    omega
theorem absI_q {xs:Items} (h:∀ q∈xs,ItemOk q) (hn:xs.length≤400):qv (absI xs)≤1099511627776:=by
  have h1:=qv_le (absI_le h)
  have e:((2^1098*100*xs.length:Nat):Int)=((1677721600*xs.length:Nat):Int)*2^1074:=by
    have e1:(2:Nat)^1098=16777216*2^1074:=by rw [show (16777216:Nat)=2^24 from by decide,← Nat.pow_add]
    rw [e1,show 16777216*2^1074*100*xs.length=1677721600*xs.length*2^1074 from by
      generalize (2:Nat)^1074=T
      rw [Nat.mul_right_comm 16777216 T 100,Nat.mul_right_comm _ T],Int.natCast_mul _ (2^1074),Int.natCast_pow]
    rfl
  rw [e,qv_pow _ _ rfl,Rat.intCast_natCast] at h1
  have h2:((1677721600*xs.length:Nat):Rat)≤((671088640000:Nat):Rat):=Rat.natCast_le_natCast.2 (by omega)
  have e3:((671088640000:Nat):Rat)=671088640000:=rfl
  rw [e3] at h2
  grind
theorem ends_first {xs L:Items} {lo hi:Nat} (he:Ends xs lo hi) (hp:L.Perm xs) (hs:Srt L) (h:0<L.length):FV lo (vI L[0].1):=by
  rcases he with ⟨h1,-⟩ | ⟨-,a,b,fa,fb,⟨q,hq,e⟩,l1,-,-⟩
  · subst h1; rw [hp.length_eq] at h; exact absurd h (Nat.lt_irrefl 0)
  · have h2:=l1 _ (hp.mem_iff.1 (List.getElem_mem h))
    obtain ⟨i,hi',e2⟩:=List.getElem_of_mem (hp.mem_iff.2 hq)
    have h3:vI L[0].1≤a:=by
      rw [← e,← e2]
      by_cases h0:i=0
      · subst h0; exact Int.le_refl _
      · exact hs 0 i h hi' (by omega)
    have:vI L[0].1=a:=by omega
    rw [this]; exact fa
theorem ends_last {xs L:Items} {lo hi:Nat} (he:Ends xs lo hi) (hp:L.Perm xs) (hs:Srt L) (h:L.length - 1<L.length):FV hi (vI L[L.length - 1].1):=by
  rcases he with ⟨h1,-⟩ | ⟨-,a,b,fa,fb,-,-,⟨q,hq,e⟩,l2⟩
  · subst h1; have:=hp.length_eq; rw [List.length_nil] at this; omega
  · have h2:=l2 _ (hp.mem_iff.1 (List.getElem_mem h))
    obtain ⟨i,hi',e2⟩:=List.getElem_of_mem (hp.mem_iff.2 hq)
    have h3:b≤vI L[L.length - 1].1:=by
      rw [← e,← e2]
      by_cases h0:i=L.length - 1
      · subst h0; exact Int.le_refl _
      · exact hs i (L.length - 1) hi' h (by omega)
    have:vI L[L.length - 1].1=b:=by omega
    rw [this]; exact fb
theorem vI_abs {q:Nat × Nat} (h:ItemOk q):(vI q.1).natAbs≤2^1099:=by
  refine Nat.le_trans ?_ (Nat.pow_le_pow_right (by decide) (show 1098≤1099 by decide))
  obtain ⟨-,hc⟩:=fits_vI h.lt h.fits
  rcases hc with ⟨h0,-⟩ | ⟨-,h1,h2,h3⟩ | ⟨-,h1,h2,h3,h4,-⟩
  · rw [h0]; exact Nat.zero_le _
  · rw [h3,Int.natAbs_natCast]; exact (rvN_range (by omega) (by omega)).2
  · rw [h4,Int.natAbs_neg,Int.natAbs_natCast]; exact (rvN_range (by omega) (by omega)).2
theorem getD_get (l:List Nat) (i:Nat) (h:i<l.length):l.getD i 0=l[i]:=by
  rw [List.getD_eq_getElem?_getD,List.getElem?_eq_getElem h]; rfl
theorem lie_frow {w:World} {gv:Nat} {outs:List Nat} {g:Nat→Nat} (h:FRow w gv outs.length (fun i=>g (outs.getD i 0))):LieN w (some ⟨gv,0,none⟩) (outs.map g):=by
  refine .inr ⟨gv,0,rfl,fun i hi=>?_⟩
  rw [List.length_map] at hi
  have:=(h.cell hi).1
  rw [Nat.zero_add,this,List.getElem_map,getD_get _ _ hi]
theorem right_all {p part x a:Nat} (hpa:fmul a 4607182418804521008=some x) (hpart:fadd x 4427486594234968593=some part) (hok:partOk p part=true) (p1:1≤p) {xs:Items} (hx:∀ q∈xs,ItemOk q) (h0:0<xs.length) (hn:xs.length≤120)
   {c s k l lo hi y:Nat} {B2:Rat} (hB2:B2≤4*qv (absI xs)) (hst:StInv B2 xs c s k l lo hi) (hy:fadd s k=some y) (qs outs:List Nat) (hol:outs.length=qs.length) (hql:qs.length≤1000000)
   (hA:∀ i,(h:i<qs.length)→∀ L:Items,L.Perm xs→Srt L→∀ lo hi',Ends xs lo hi'→AskedNear L qs[i] (clampF lo hi' (outs.getD i 0)) part)
   (ax aq:Option Addr) (cx cq gv:Nat) (w:World) (hl:LieR w ax (fi xs)) (hq:LieN w aq qs) (hv:FRow w gv outs.length (fun i=>clampF lo hi (outs.getD i 0))) :
    Calls Tryz.prog 10 #[.float .f64 a,.slice ax xs.length cx,.slice aq qs.length cq,.slice (some ⟨gv,0,none⟩) outs.length outs.length,.float .f64 c,.float .f64 y,.float .f64 lo,.float .f64 hi] w fun e w'=>e = .returned (.bool true)∧Below w.heap.size w w':=by
  obtain ⟨fp,hP,hP2⟩:=partOk_is hok
  have hB0:0≤qv (absI xs):=by have:=qv_le (absI_nonneg xs); rwa [qv_zero] at this
  have hn4:xs.length≤400:=by omega
  have hB1:=absI_q hx hn4
  have hlen:(outs.map (clampF lo hi)).length=outs.length:=List.length_map ..
  have hp0:1 / 100≤qv ((rvN part:Nat):Int):=by
    have h1:10000000005*2^1074≤1000000000000*rvN part:=Nat.le_trans (Nat.mul_le_mul_right _ (by omega)) hP
    have h2:=qv_le (Int.ofNat_le.2 h1)
    rw [Int.natCast_mul,Int.natCast_mul,Int.natCast_pow] at h2
    have e1:qv (((10000000005:Nat):Int)*((2:Nat):Int)^1074)=10000000005:=by rw [show ((2:Nat):Int)=2 from rfl,qv_pow _ _ rfl]; rfl
    rw [e1] at h2
    have e2:qv (((1000000000000:Nat):Int)*((rvN part:Nat):Int))=1000000000000*qv ((rvN part:Nat):Int):=by
      have e3:((((1000000000000:Nat):Int)):Rat)=1000000000000:=rfl
      unfold qv; rw [Rat.intCast_mul,e3]; grind
    rw [e2] at h2
    generalize qv ((rvN part:Nat):Int)=r at *
    grind
  have hp1:qv ((rvN part:Nat):Int)≤1:=by
    have h2:=qv_le (Int.ofNat_le.2 hP2)
    rw [Int.natCast_pow] at h2
    have e1:qv (((2:Nat):Int)^1074)=1:=by
      have:=qv_pow 1 1074 rfl
      rw [Int.one_mul] at this
      exact this
    rw [e1] at h2
    exact h2
  have hnr:((xs.length:Nat):Rat)≤120:=by
    have:((xs.length:Nat):Rat)≤((120:Nat):Rat):=Rat.natCast_le_natCast.2 hn
    exact this
  have:=right_any a x part c y lo hi cx cq outs.length ax aq (some ⟨gv,0,none⟩) xs qs (outs.map (clampF lo hi)) (qv (absI xs)) w hl hq (lie_frow hv) (by rw [hlen]; exact hol) hql h0 hn4 hx hst.cnt hpa hpart
    (fun L hp hs i hi'=>by
      rw [List.getElem_map,← getD_get outs i (by omega)]
      exact hA i hi' L hp hs lo hi hst.ends) hB0 hB1 Rat.le_refl
    (fun l z h1 h2=>sum_right hst.sum hB2 h1 h2 rfl hnr hB1 hy fp hp0 hp1)
    (fun L hp hs h=>by
      have hm:=hx _ (hp.mem_iff.1 (List.getElem_mem h))
      exact near_same (ends_first hst.ends hp hs h) (fits_vI hm.lt hm.fits).1 fp (vI_abs hm) (Nat.le_trans hP2 (Nat.pow_le_pow_right (by decide) (by decide))))
    (fun L hp hs h=>by
      have hm:=hx _ (hp.mem_iff.1 (List.getElem_mem h))
      exact near_same (ends_last hst.ends hp hs h) (fits_vI hm.lt hm.fits).1 fp (vI_abs hm) (Nat.le_trans hP2 (Nat.pow_le_pow_right (by decide) (by decide))))
  rw [hlen] at this
  exact this
end Go.Proofs.YtllaekopaglolaaGreat
end
/-
  spec.Proper: whether bins are ones that are compared; what such bins are.
-/
section
namespace Go.Proofs.YtllaekopaglolaaGreat
open Go.RowKit Ieee
set_option exponentiation.threshold 3000
def okC (c:Nat):Bool :=
  !(FloatKind.f64.format.order c 4607182418800017408 == some .lt) && !(FloatKind.f64.format.order c 4652007308841189376 == some .gt) &&
  (((floatToIntVal .f64 c .i64).map fun n=>FloatKind.f64.format.order c (floatOfInt .f64 n) == some .eq) == some true)
theorem cut_whole (m:Nat) (i:Int) (g1:-1074≤i) (lo:2^1074≤m*2^(i+1074).toNat) (hi:m*2^(i+1074).toNat≤1000*2^1074) :
    ∃ k:Nat,1≤k∧k≤1000∧Toward.zero.cut false (m <<< i.toNat) (-i).toNat=k:=by
  have hM:2^(-i).toNat≤m <<< i.toNat∧m <<< i.toNat≤1000*2^(-i).toNat:=by
    rw [Nat.shiftLeft_eq]
    have e:1074+i.toNat=(i+1074).toNat+(-i).toNat:=by omega
    have e2:m*2^i.toNat*2^1074=m*2^(i+1074).toNat*2^(-i).toNat:=by
      rw [Nat.mul_assoc,← Nat.pow_add,Nat.add_comm,e,Nat.pow_add,Nat.mul_assoc]
    refine ⟨?_,?_⟩
    · refine Nat.le_of_mul_le_mul_right ?_ (Nat.two_pow_pos 1074)
      rw [e2,Nat.mul_comm (2^(-i).toNat)]
      exact Nat.mul_le_mul_right _ lo
    · refine Nat.le_of_mul_le_mul_right ?_ (Nat.two_pow_pos 1074)
      rw [e2,show 1000*2^(-i).toNat*2^1074=1000*2^1074*2^(-i).toNat from by ac_rfl]
      exact Nat.mul_le_mul_right _ hi
  revert hM
  generalize m <<< i.toNat=M
  generalize (-i).toNat=d
  rintro ⟨h1,h2⟩
  have hd0:=Nat.two_pow_pos d
  have hM0:M≠0:=by omega
  have hl:d≤M.log2+2:=by have:=(Nat.le_log2 hM0).2 h1; omega
  refine ⟨M / 2^d,(Nat.le_div_iff_mul_le hd0).2 (by omega),?_,?_⟩
  · have:=Nat.div_le_div_right (c:=2^d) h2
    rwa [Nat.mul_div_cancel _ hd0] at this
  · unfold Toward.cut
    simp only [Bool.toNat_false,Nat.add_zero,Nat.one_shiftLeft,Nat.min_eq_left hl]
theorem okC_whole (c:Nat) (hc:c<18446744073709551616) (h:okC c=true):∃ n,1≤n∧n≤1000∧c=nf n:=by
  unfold okC at h
  simp only [Bool.and_eq_true,Bool.not_eq_true',beq_iff_eq,Option.map_eq_some_iff] at h
  obtain ⟨⟨h1,h2⟩,n,hn,he⟩:=h
  have h1':¬ FloatKind.f64.format.order c (nf 1)=some .lt:=by rw [nf_one]; simpa using h1
  have h2':¬ FloatKind.f64.format.order c (nf 1000)=some .gt:=by rw [nf_thousand]; simpa using h2
  obtain ⟨m1,i1,r1,p1,v1⟩:=nf_read 1 (by decide)
  obtain ⟨m2,i2,r2,p2,v2⟩:=nf_read 1000 (by decide)
  unfold floatToIntVal at hn
  have hrd:FloatKind.f64.decode c=double.read c:=rfl
  rw [hrd] at hn
  have q1:¬ (double.read c).order (double.read (nf 1))=some .lt:=h1'
  have q2:¬ (double.read c).order (double.read (nf 1000))=some .gt:=h2'
  rw [r1] at q1
  rw [r2] at q2
  cases hr:double.read c with
  | nan s t=>rw [hr] at hn; simp [Datum.toInt,Datum.integral] at hn
  | infinity s=>rw [hr] at hn; simp [Datum.toInt,Datum.integral] at hn
  | number s m i =>
    obtain ⟨g1,g2,g3⟩:=read_number hr
    rw [hr] at hn q1 q2
    rw [order_sv _ _ _ _ _ _ g1 p1,v1] at q1
    rw [order_sv _ _ _ _ _ _ g1 p2,v2] at q2
    have hlo:(2:Int)^1074≤sv s m i:=by
      rcases Int.lt_trichotomy (sv s m i) (((1:Nat):Int)*2^1074) with h | h | h
      · exact absurd (by rw [Int.compare_eq_lt.2 h]) q1
      · rw [h]; omega
      · omega
    have hhi:sv s m i≤1000*2^1074:=by
      rcases Int.lt_trichotomy (sv s m i) (((1000:Nat):Int)*2^1074) with h | h | h
      · omega
      · rw [h]; omega
      · exact absurd (by rw [Int.compare_eq_gt.2 h]) q2
    have hp:=pow1074_pos
    have hs:s=false:=by
      cases s with
      | false=>rfl
      | true =>
        exfalso
        unfold sv at hlo
        rw [signed_eq] at hlo
        have:(0:Int)≤(m:Int)*2^(i+1074).toNat:=Int.mul_nonneg (by omega) (Int.le_of_lt (two_pow_pos_int _))
        simp at hlo
        omega
    subst hs
    rw [sv_false] at hlo hhi
    have lo:2^1074≤m*2^(i+1074).toNat:=by
      have e:((2^1074:Nat):Int)=(2:Int)^1074:=by rw [Int.natCast_pow]; rfl
      rw [← e] at hlo
      exact Int.ofNat_le.1 hlo
    have hi:m*2^(i+1074).toNat≤1000*2^1074:=by
      have e:((1000*2^1074:Nat):Int)=(1000:Int)*2^1074:=by rw [Int.natCast_mul,Int.natCast_pow]; rfl
      rw [← e] at hhi
      exact Int.ofNat_le.1 hhi
    have hcut:=cut_whole m i g1 lo hi
    obtain ⟨k,k1,k2,hk⟩:=hcut
    simp only [Datum.toInt,Datum.integral,hk] at hn
    have hsk:signed false k 0=(k:Int):=by rw [signed_eq]; simp
    rw [hsk] at hn
    split at hn
    · obtain rfl:=Option.some.inj hn
      exact ⟨k,k1,k2,eq_nf hc (by omega) (by omega) he⟩
    · cases hn
section
variable {P:Program}
theorem run_convert_float_none (w:World) (src dst:TypeId) (s:FloatKind) (k:IntKind) (b:Nat) (hs:(P.underlying src).isSome=true) (hd:P.underlying dst=some (.int k)) (h:floatToIntVal s b k=none) :
    ∃ n,(convert src dst (.float s b)).run P w = .ok (.int k n) w.drew:=by
  obtain ⟨u,hs'⟩:=Option.isSome_iff_exists.1 hs
  unfold floatToIntVal at h
  split at h
  · rename_i m he
    split at h
    · cases h
    · rename_i hb
      cases u <;> simp [convert,run_underlying hs',run_underlying hd,Conv.floatToInt,he,hb,Question.forced]
  · rename_i he
    cases u <;> simp [convert,run_underlying hs',run_underlying hd,Conv.floatToInt,he,Question.forced]
end
theorem order_nan4 {c:Nat} (h1:(FloatKind.f64.format.order c 4607182418800017408 == some .lt)=false) (h2:(FloatKind.f64.format.order c 4652007308841189376 == some .gt)=false) (h:floatToIntVal .f64 c .i64=none) (x:Nat) :
    (FloatKind.f64.format.order c x != some .eq)=true:=by
  have h1':¬ FloatKind.f64.format.order c (nf 1)=some .lt:=by rw [nf_one]; simpa using h1
  have h2':¬ FloatKind.f64.format.order c (nf 1000)=some .gt:=by rw [nf_thousand]; simpa using h2
  obtain ⟨m1,i1,r1,p1,v1⟩:=nf_read 1 (by decide)
  obtain ⟨m2,i2,r2,p2,v2⟩:=nf_read 1000 (by decide)
  have q1:¬ (double.read c).order (double.read (nf 1))=some .lt:=h1'
  have q2:¬ (double.read c).order (double.read (nf 1000))=some .gt:=h2'
  rw [r1] at q1
  rw [r2] at q2
  cases hr:double.read c with
  | nan s t =>
    have:FloatKind.f64.format.order c x=none:=by
      show (double.read c).order (double.read x)=none
      rw [hr]; rfl
    rw [this]; rfl
  | infinity s =>
    rw [hr] at q1 q2
    cases s <;> simp [Datum.order] at q1 q2
  | number s m i =>
    exfalso
    obtain ⟨g1,g2,g3⟩:=read_number hr
    rw [hr] at q1 q2
    rw [order_sv _ _ _ _ _ _ g1 p1,v1] at q1
    rw [order_sv _ _ _ _ _ _ g1 p2,v2] at q2
    have hlo:(2:Int)^1074≤sv s m i:=by
      rcases Int.lt_trichotomy (sv s m i) (((1:Nat):Int)*2^1074) with h | h | h
      · exact absurd (by rw [Int.compare_eq_lt.2 h]) q1
      · rw [h]; omega
      · omega
    have hhi:sv s m i≤1000*2^1074:=by
      rcases Int.lt_trichotomy (sv s m i) (((1000:Nat):Int)*2^1074) with h | h | h
      · omega
      · rw [h]; omega
      · exact absurd (by rw [Int.compare_eq_gt.2 h]) q2
    have hp:=pow1074_pos
    have hs:s=false:=by
      cases s with
      | false=>rfl
      | true =>
        exfalso
        unfold sv at hlo
        rw [signed_eq] at hlo
        have:(0:Int)≤(m:Int)*2^(i+1074).toNat:=Int.mul_nonneg (by omega) (Int.le_of_lt (two_pow_pos_int _))
        simp at hlo
        omega
    subst hs
    rw [sv_false] at hlo hhi
    have lo:2^1074≤m*2^(i+1074).toNat:=by
      have e:((2^1074:Nat):Int)=(2:Int)^1074:=by rw [Int.natCast_pow]; rfl
      rw [← e] at hlo
      exact Int.ofNat_le.1 hlo
    have hi:m*2^(i+1074).toNat≤1000*2^1074:=by
      have e:((1000*2^1074:Nat):Int)=(1000:Int)*2^1074:=by rw [Int.natCast_mul,Int.natCast_pow]; rfl
      rw [← e] at hhi
      exact Int.ofNat_le.1 hhi
    obtain ⟨k,k1,k2,hk⟩:=cut_whole m i g1 lo hi
    unfold floatToIntVal at h
    have hrd:FloatKind.f64.decode c=double.read c:=rfl
    rw [hrd,hr] at h
    simp only [Datum.toInt,Datum.integral,hk] at h
    have hsk:signed false k 0=(k:Int):=by rw [signed_eq]; simp
    rw [hsk] at h
    have hb:IntKind.i64.min≤(k:Int)∧(k:Int)≤IntKind.i64.max:=by
      have e1:IntKind.i64.min = -9223372036854775808:=by decide
      have e2:IntKind.i64.max=9223372036854775807:=by decide
      rw [e1,e2]; omega
    rw [if_pos hb] at h
    cases h
end Go.Proofs.YtllaekopaglolaaGreat
end
/-
  spec.Items: whether items are ones that are compared; what such items are.
-/
section
namespace Go.Proofs.YtllaekopaglolaaGreat
open Go.RowKit Ieee
set_option exponentiation.threshold 3000
theorem le_thousand {c:Nat} (h:(FloatKind.f64.format.order c 4636737291354636288 == some .gt)=false):(FloatKind.f64.format.order c 4652007308841189376 == some .gt)=false:=by
  have e:nf 100=4636737291354636288:=by decide +kernel
  have h2':¬ FloatKind.f64.format.order c (nf 100)=some .gt:=by rw [e]; simpa using h
  obtain ⟨m1,i1,r1,p1,v1⟩:=nf_read 100 (by decide)
  obtain ⟨m2,i2,r2,p2,v2⟩:=nf_read 1000 (by decide)
  have q1:¬ (double.read c).order (double.read (nf 100))=some .gt:=h2'
  rw [r1] at q1
  rw [← nf_thousand]
  show ((double.read c).order (double.read (nf 1000)) == some .gt)=false
  rw [r2]
  cases hr:double.read c with
  | nan s t=>rfl
  | infinity s=>rw [hr] at q1; cases s <;> simp_all [Datum.order]
  | number s m i =>
    obtain ⟨g1,g2,g3⟩:=read_number hr
    rw [hr] at q1
    rw [order_sv _ _ _ _ _ _ g1 p1,v1] at q1
    rw [order_sv _ _ _ _ _ _ g1 p2,v2]
    have hp:(0:Int)<2^1074:=by exact_mod_cast Nat.two_pow_pos 1074
    rcases Int.lt_trichotomy (sv s m i) (((1000:Nat):Int)*2^1074) with h | h | h
    · rw [Int.compare_eq_lt.2 h]; rfl
    · rw [Int.compare_eq_eq.2 h]; rfl
    · exact absurd (by rw [Int.compare_eq_gt.2 (by omega)]) q1
def okC1 (c:Nat):Bool :=
  !(FloatKind.f64.format.order c 4607182418800017408 == some .lt) && !(FloatKind.f64.format.order c 4636737291354636288 == some .gt) &&
  (((floatToIntVal .f64 c .i64).map fun n=>FloatKind.f64.format.order c (floatOfInt .f64 n) == some .eq) == some true)
theorem okC1_whole (c:Nat) (hc:c<18446744073709551616) (h:okC1 c=true):∃ n,1≤n∧n≤100∧c=nf n:=by
  unfold okC1 at h
  simp only [Bool.and_eq_true,Bool.not_eq_true'] at h
  obtain ⟨⟨h1,h2⟩,h3⟩:=h
  obtain ⟨n,a,b,e⟩:=okC_whole c hc (by unfold okC; simp only [Bool.and_eq_true,Bool.not_eq_true']; exact ⟨⟨h1,le_thousand h2⟩,h3⟩)
  refine ⟨n,a,?_,e⟩
  have e1:nf 100=4636737291354636288:=by decide +kernel
  rw [e,← e1,nf_order n 100 (by omega) (by omega)] at h2
  by_cases hn:n≤100
  · exact hn
  · have:compare n 100 = .gt:=Nat.compare_eq_gt.2 (by omega)
    simp_all
def okItem (q:Nat × Nat):Bool:=fitsB q.1&&okC1 q.2
def itemsB (ps:List (Nat × Nat)):Bool:=ps.all okItem&&(decide (1≤ps.length)&&decide (ps.length≤60))
theorem items_ok {ps:List (Nat × Nat)} (h:itemsB ps=true) (hb:∀ p∈ps,p.1<18446744073709551616∧p.2<18446744073709551616):∃ xs:Items,ps=fi xs∧(∀ q∈xs,ItemOk q)∧1≤xs.length∧xs.length≤60:=by
  unfold itemsB at h
  obtain ⟨h1,h2⟩:=Bool.and_eq_true_iff.1 h
  obtain ⟨h3,h4⟩:=Bool.and_eq_true_iff.1 h2
  have h3':=of_decide_eq_true h3
  have h4':=of_decide_eq_true h4
  suffices ∃ xs:Items,ps=fi xs∧(∀ q∈xs,ItemOk q) by
    obtain ⟨xs,e,a⟩:=this
    refine ⟨xs,e,a,?_,?_⟩ <;> (rw [e,fi_length] at h3' h4'; assumption)
  clear h h2 h3 h4 h3' h4'
  induction ps with
  | nil=>exact ⟨[],rfl,(fun p hp=>by cases hp)⟩
  | cons p t ih =>
    obtain ⟨a1,a2⟩:=Bool.and_eq_true_iff.1 (show (okItem p&&t.all okItem)=true from h1)
    obtain ⟨xs,e,i1⟩:=ih (fun q hq=>hb q (List.mem_cons_of_mem _ hq)) a2
    obtain ⟨b1,b2⟩:=Bool.and_eq_true_iff.1 a1
    obtain ⟨n,n1,n2,n3⟩:=okC1_whole p.2 (hb p List.mem_cons_self).2 b2
    refine ⟨(p.1,n) :: xs,?_,?_⟩
    · rw [show fi ((p.1,n) :: xs)=(p.1,nf n) :: fi xs from rfl,← e,← n3]
    · intro q hq
      rcases List.mem_cons.1 hq with rfl | hq
      · exact ⟨(hb p List.mem_cons_self).1,b1,n1,n2⟩
      · exact i1 q hq
def ItemsFRel (ps:List (Nat × Nat)) (w wr:World) (i:Value):Prop :=
  ∃ k,k≤ps.length∧i = .int .i64 (k:Int)∧Below w.heap.size w wr∧Hid ((ps.take k).all okItem=true)
theorem items_bad {ps:List (Nat × Nat)} {k:Nat} (h:k<ps.length) (hb:okItem ps[k]=false):itemsB ps=false:=by
  unfold itemsB
  have:ps.all okItem=false:=by
    rw [← Bool.not_eq_true,List.all_eq_true]
    intro h2
    have:=h2 ps[k] (List.getElem_mem h)
    rw [hb] at this
    cases this
  rw [this]; rfl
set_option maxRecDepth 100000 in
set_option maxHeartbeats 800000 in
theorem itemsF_any (ao:Option Addr) (cp:Nat) (ps:List (Nat × Nat)) (w:World) (hl:LieR w ao ps) (hn:ps.length≤2147483647) :
    Calls Tryz.prog 7 #[.slice ao ps.length cp] w fun e w'=>e = .returned (.bool (itemsB ps))∧Below w.heap.size w w':=by
  have HL:=Lib.hid hl; clear hl
  go_enter Tryz.func7,Tryz.ntmps7
  go_wp2
  go_loopw [7] (fun i wr=>ItemsFRel ps w wr i) (fun i _=>ps.length - (intOf i).toNat)
  case atStart=>exact ⟨0,by omega,rfl,Below.refl _ _,rfl⟩
  case round =>
    obtain ⟨k,hk,rfl,hb,HK⟩:=hrel
    by_cases hlt:k<ps.length
    · rcases HL.out.later hb with h0 | ⟨g,off,rfl,hcell⟩
      · have:=congrArg List.length h0; rw [List.length_nil] at this; omega
      obtain ⟨c0,c1⟩:=hcell k hlt
      have hbad:=items_bad hlt
      have hgood:okItem ps[k]=true→(ps.take (k+1)).all okItem=true:=by
        intro h
        rw [List.take_succ_eq_append_getElem hlt,List.all_append,HK.out]
        simp [h]
      generalize ps[k]=p at c0 c1 hbad hgood
      obtain ⟨x,c⟩:=p
      dsimp only at c0 c1
      have HG:=Lib.hid hgood
      have HD:=Lib.hid hbad
      have HB:=Lib.hid hb
      have hz:=hb.size
      clear hgood hbad hcell hb HK
      have hlo:∀ n,((wr.alloc (.cells #[.float .f64 x,.float .f64 c] 38)).drewN n).cell? ⟨wr.heap.size,1,none⟩=some (.float .f64 c):=fun n=>cell_of_row _ _ 1 _ _ _ (heap_alloc_new wr (.cells #[.float .f64 x,.float .f64 c] 38))
      have HF:=fun w=>fits_any x w
      cases h2:fitsB x
      · have hr:=HD.out (by simp [okItem,h2])
        have HR:=Lib.hid hr; clear hr HG HD
        rw [h2] at HF
        clear h2
        go_wp2_with (go_at_call 12; (with_reducible refine (HF _).mono ?_); rintro e w' ⟨rfl,nd,rfl⟩)
        go_ret
        exact ⟨by rw [HR.out]; rfl,below_drewN (HB.out.alloc hz _) nd⟩
      rw [h2] at HF
      cases h3:(FloatKind.f64.format.order c 4607182418800017408 == some .lt)
      · cases h4:(FloatKind.f64.format.order c 4636737291354636288 == some .gt)
        · cases hf:floatToIntVal .f64 c .i64 with
          | none =>
            have hcn:∀ nd,∃ n,(convert 29 3 (.float .f64 c)).run Tryz.prog ((wr.alloc (.cells #[.float .f64 x,.float .f64 c] 38)).drewN nd) = .ok (.int .i64 n) ((wr.alloc (.cells #[.float .f64 x,.float .f64 c] 38)).drewN nd).drew:=fun nd=>run_convert_float_none (P:=Tryz.prog) _ 29 3 .f64 .i64 c (by simp [Tryz.underlying29]) Tryz.underlying3 hf
            have HQ:=Lib.hid (fun n=>order_nan4 h3 (le_thousand h4) hf (floatOfInt .f64 n))
            have hr:=HD.out (by simp [okItem,okC1,hf])
            have HR:=Lib.hid hr
            have HCN:=Lib.hid hcn
            clear hr HG HD hf h2 hcn
            go_wp2_with (go_at_call 12; (with_reducible refine (HF _).mono ?_); rintro e w' ⟨rfl,nd,rfl⟩; obtain ⟨n,hcn⟩:=HCN.out nd; have hq:=HQ.out n)
            go_ret
            exact ⟨by rw [HR.out]; rfl,(below_drewN (HB.out.alloc hz _) nd).drew⟩
          | some n =>
            have hcn:=fun w=>run_convert_float_int (P:=Tryz.prog) w 29 3 .f64 .i64 c n (by simp [Tryz.underlying29]) Tryz.underlying3 hf
            cases hq:(FloatKind.f64.format.order c (floatOfInt .f64 n) == some .eq)
            · have hq2:(FloatKind.f64.format.order c (floatOfInt .f64 n) != some .eq)=true:=by simp [bne,hq]
              have hr:=HD.out (by simp [okItem,okC1,hf,hq])
              have HR:=Lib.hid hr; clear hr HG HD hf hq h2
              go_wp2_with (go_at_call 12; (with_reducible refine (HF _).mono ?_); rintro e w' ⟨rfl,nd,rfl⟩)
              go_ret
              exact ⟨by rw [HR.out]; rfl,below_drewN (HB.out.alloc hz _) nd⟩
            · have hq2:(FloatKind.f64.format.order c (floatOfInt .f64 n) != some .eq)=false:=by simp [bne,hq]
              have hr:=HG.out (by
                have e1:okC1 c=true:=by
                  unfold okC1
                  rw [h3,h4,hf,Option.map_some,hq]
                  rfl
                simp [okItem,e1,h2])
              have HR:=Lib.hid hr
              clear hr HG HD hf hq h2
              go_wp2_with (go_at_call 12; (with_reducible refine (HF _).mono ?_); rintro e w' ⟨rfl,nd,rfl⟩)
              go_roundw
              case rel=>exact ⟨k+1,by omega,by go_num,below_drewN (HB.out.alloc hz _) nd,HR.out⟩
              case measure=>simp [intOf]; omega
        · have hr:=HD.out (by simp [okItem,okC1,h4])
          have HR:=Lib.hid hr; clear hr HG HD h2
          go_wp2_with (go_at_call 12; (with_reducible refine (HF _).mono ?_); rintro e w' ⟨rfl,nd,rfl⟩)
          go_ret
          exact ⟨by rw [HR.out]; rfl,below_drewN (HB.out.alloc hz _) nd⟩
      · have hr:=HD.out (by simp [okItem,okC1,h3])
        have HR:=Lib.hid hr; clear hr HG HD h2
        go_wp2_with (go_at_call 12; (with_reducible refine (HF _).mono ?_); rintro e w' ⟨rfl,nd,rfl⟩)
        go_ret
        exact ⟨by rw [HR.out]; rfl,below_drewN (HB.out.alloc hz _) nd⟩
    · obtain rfl:k=ps.length:=by omega
      have HB:=Lib.hid hb
      have hall:=HK.out
      rw [List.take_length] at hall
      have hr:itemsB ps=(decide (1≤(ps.length:Int))&&decide ((ps.length:Int)≤60)):=by unfold itemsB; rw [hall,Bool.true_and]; congr 1 <;> (apply decide_eq_decide.2; omega)
      have HR:=Lib.hid hr
      clear hb hlt HK hall hr
      by_cases z1:(1:Int)≤ps.length
      · by_cases z2:(ps.length:Int)≤60
        · have hd:itemsB ps=true:=by rw [HR.out]; simp [z1,z2]
          have HD:=Lib.hid hd; clear hd HR
          go_wp2
          go_ret
          exact ⟨by rw [HD.out]; rfl,HB.out⟩
        · have hd:itemsB ps=false:=by rw [HR.out]; simp [z2]
          have HD:=Lib.hid hd; clear hd HR
          have z2':=Int.not_le.1 z2
          have hz:=decide_eq_false z2
          clear z2
          go_wp2
          go_ret
          exact ⟨by rw [HD.out]; rfl,HB.out⟩
      · have hd:itemsB ps=false:=by rw [HR.out]; simp [z1]
        have HD:=Lib.hid hd; clear hd HR
        have z1':=Int.not_le.1 z1; clear z1
        go_wp2
        go_ret
        exact ⟨by rw [HD.out]; rfl,HB.out⟩
end Go.Proofs.YtllaekopaglolaaGreat
end
/-
  EncodeUvarint64: the buffer grows by the number's bytes,seven bits at a time.
-/
section
namespace Go.Proofs.YtllaekopaglolaaGreat
open Go.RowKit
theorem Tryz.infoU8:(Tryz.prog.info? 5).map (fun i=>(i.zero,i.size,i.bytes))=some (some (.int .u8 0),1,1):=by kernel_rfl
def encU:Nat→Nat→List Nat
  | 0,v=>[v % 256]
  | k+1,v=>if v<128 then [v] else (v % 128+128) :: encU k (v / 128)
theorem or128 (u:Nat):bits .or .u8 ((u:Int) % 256) 128=((u % 128+128:Nat):Int):=by
  have h:=u8_or_nat (u % 256) 128 (by omega) (by omega)
  have e:((u % 256:Nat):Int)=(u:Int) % 256:=by omega
  rw [e] at h
  rw [show ((128:Nat):Int)=128 from rfl] at h
  rw [h]
  have:u % 256 ||| 128=u % 128+128:=by
    have hb:∀ x:BitVec 8,x ||| 128#8=(x &&& 127#8)+128#8:=by decide
    have hx:=congrArg BitVec.toNat (hb (BitVec.ofNat 8 u))
    simp only [BitVec.toNat_or,BitVec.toNat_add,BitVec.toNat_and,BitVec.toNat_ofNat] at hx
    rw [show (127:Nat) % 2^8=127 from rfl,nat_mask7,show (2:Nat)^8=256 from rfl,show (128:Nat) % 256=128 from rfl] at hx
    omega
  rw [this]
set_option maxRecDepth 100000 in
set_option maxHeartbeats 400000 in
theorem encU_any (p:Nat) (r:Option Nat) (v:Nat) (xs:List Nat) (w:World) (hv:v<18446744073709551616)
   (hb:Buf 40 5 w p r xs) (hn:xs.length<1000000000) :
    Calls Tryz.prog 26 #[.pointer (some ⟨p,0,none⟩),.int .u64 v] w fun e w'=>e = .returned (.tuple #[])∧GrewTo 40 5 w w' p r (xs++encU 8 v):=by
  obtain ⟨i0,hi,hz0,hz1,hz2⟩:=info_parts Tryz.infoU8
  go_enter Tryz.func26,Tryz.ntmps26
  go_wp2
  go_loopw [1,4] (fun u i wr=>∃ k u':Nat,∃ pre:List Nat,k≤8∧pre.length=k∧i = .int .i64 k∧u = .int .u64 u'∧u'<18446744073709551616∧encU 8 v=pre++encU (8 - k) u'∧GrewTo 40 5 w wr p r (xs++pre)) (fun _ i _=>8 - (intOf i).toNat)
  case atStart=>exact ⟨0,v,[],by omega,rfl,rfl,rfl,hv,rfl,by simpa using GrewTo.start hb⟩
  case round =>
    obtain ⟨k,u',pre,hk,hpl,rfl,rfl,hu,he,hgr⟩:=hrel
    obtain ⟨r',⟨s,hcell,hown,hrr⟩,hfr,hr'⟩:=id hgr
    have hc:=cell_of_one hcell
    have hf:=free_of_one hcell
    clear hgr
    have HE:=Lib.hid he; clear he
    have HC:=Lib.hid hcell; clear hcell
    have HR:=Lib.hid hrr; clear hrr
    have HF:=Lib.hid hfr; clear hfr
    have HX:=Lib.hid hr'; clear hr' hb
    have HU:=Lib.hid hu; clear hu
    have hl:(xs++pre).length<1000000010:=by simp; omega
    have HP:=Lib.hid hpl; clear hpl
    by_cases h8:k<8
    · by_cases h128:u'<128
      · go_wp2_with (at_builtin; refine wpList_append_own2 _ rfl _ _ 40 rfl 5 i0 (.int .u8 0) 1 1 Tryz.underlying40 hi hz0 hz1 hz2 rfl (by decide) s (xs++pre).length (cu8 (xs++pre)) rfl (hown.alloc _) ⟨wr.heap.size,0,none⟩ 1 1 [Value.int .u8 ((u':Int))] rfl rfl ?c1 ?c2 ?c3 ?c4 ?_)
        case c1=>exact cell_one_new _ _ _
        case c2=>intro u hu; simp at hu; subst hu; rfl
        case c3=>unfold maxLen; omega
        case c4=>omega
        intro v' w1 hown' hgrow hblk
        have hown2:w1.ownsRow 0 5 1 v' ((xs++pre).length+[u'].length) (cu8 (xs++pre)++cu8 [u']):=by
          simpa [cu8] using hown'
        have hc1:=buf_cell_behind (by decide) HC.out hown hgrow
        have g:=grew_step (ys:=[u']) (by decide) HC.out hown HR.out HF.out HX.out hown2 hgrow hblk
        obtain ⟨ao,n1,cp1,hv1⟩:=owns_slice hown'
        rw [hv1] at g
        rw [hv1]
        have HG:=Lib.hid g
        clear hown' hown2 hgrow hblk g hv1
        have hcc:=cell_of_one hc1
        have hff:=free_of_one hc1
        clear hc1
        go_wp2
        go_end0
        refine ⟨rfl,?_⟩
        have e:encU 8 v=pre++[u']:=by
          rw [HE.out]; congr 1
          obtain ⟨j,hj⟩:∃ j,8 - k=j+1:=⟨7 - k,by omega⟩
          rw [hj,encU,if_pos h128]
        rw [e,← List.append_assoc]
        exact HG.out
      · go_wp2_with (at_builtin; refine wpList_append_own2 _ rfl _ _ 40 rfl 5 i0 (.int .u8 0) 1 1 Tryz.underlying40 hi hz0 hz1 hz2 rfl (by decide) s (xs++pre).length (cu8 (xs++pre)) rfl (hown.alloc _) ⟨wr.heap.size,0,none⟩ 1 1 [Value.int .u8 (bits .or .u8 ((u':Int) % 256) 128)] rfl rfl ?c1 ?c2 ?c3 ?c4 ?_)
        case c1=>exact cell_one_new _ _ _
        case c2=>intro u hu; simp at hu; subst hu; rfl
        case c3=>unfold maxLen; omega
        case c4=>omega
        intro v' w1 hown' hgrow hblk
        have hown2:w1.ownsRow 0 5 1 v' ((xs++pre).length+[u' % 128+128].length) (cu8 (xs++pre)++cu8 [u' % 128+128]):=by
          rw [or128] at hown'; simpa [cu8] using hown'
        have hc1:=buf_cell_behind (by decide) HC.out hown hgrow
        have g:=grew_step (ys:=[u' % 128+128]) (by decide) HC.out hown HR.out HF.out HX.out hown2 hgrow hblk
        obtain ⟨ao,n1,cp1,hv1⟩:=owns_slice hown'
        rw [hv1] at g
        rw [hv1]
        have HG:=Lib.hid g
        clear hown' hown2 hgrow hblk g hv1
        have hcc:=cell_of_one hc1
        have hff:=free_of_one hc1
        clear hc1
        go_wp2
        go_roundw
        case rel =>
          refine ⟨k+1,u' / 128,pre++[u' % 128+128],by omega,by have:=HP.out; simp; omega,by go_num,?_,by have:=HU.out; omega,?_,?_⟩
          · go_num
          · rw [HE.out,List.append_assoc]; congr 1
            obtain ⟨j,hj⟩:∃ j,8 - k=j+1:=⟨7 - k,by omega⟩
            rw [hj,encU,if_neg h128,show 8 - (k+1)=j from by omega]; rfl
          · rw [← List.append_assoc]; exact HG.out
        case measure=>simp [intOf]; omega
    · go_wp2_with (at_builtin; refine wpList_append_own2 _ rfl _ _ 40 rfl 5 i0 (.int .u8 0) 1 1 Tryz.underlying40 hi hz0 hz1 hz2 rfl (by decide) s (xs++pre).length (cu8 (xs++pre)) rfl (hown.alloc _) ⟨wr.heap.size,0,none⟩ 1 1 [Value.int .u8 ((u':Int) % 256)] rfl rfl ?c1 ?c2 ?c3 ?c4 ?_)
      case c1=>exact cell_one_new _ _ _
      case c2=>intro u hu; simp at hu; subst hu; rfl
      case c3=>unfold maxLen; omega
      case c4=>omega
      intro v' w1 hown' hgrow hblk
      have hown2:w1.ownsRow 0 5 1 v' ((xs++pre).length+[u' % 256].length) (cu8 (xs++pre)++cu8 [u' % 256]):=by
        simpa [cu8] using hown'
      have hc1:=buf_cell_behind (by decide) HC.out hown hgrow
      have g:=grew_step (ys:=[u' % 256]) (by decide) HC.out hown HR.out HF.out HX.out hown2 hgrow hblk
      obtain ⟨ao,n1,cp1,hv1⟩:=owns_slice hown'
      rw [hv1] at g
      rw [hv1]
      have HG:=Lib.hid g
      clear hown' hown2 hgrow hblk g hv1
      have hcc:=cell_of_one hc1
      have hff:=free_of_one hc1
      clear hc1
      go_wp2
      go_end0
      refine ⟨rfl,?_⟩
      have e:encU 8 v=pre++[u' % 256]:=by
        rw [HE.out]; congr 1
        rw [show 8 - k=0 from by omega,encU]
      rw [e,← List.append_assoc]
      exact HG.out
end Go.Proofs.YtllaekopaglolaaGreat
end
/-
  works: it is true.
-/
section
namespace Go.Proofs.YtllaekopaglolaaGreat
open Go.RowKit
set_option maxRecDepth 100000 in
theorem uvarint_closure (pn:Nat) (v:Nat) (p:Nat) (r:Option Nat) (w:World) (hv:v<18446744073709551616) (hpn:w.cell? ⟨pn,0,none⟩=some (.int .u64 v)) (hb:Buf 40 5 w p r []) :
    Calls Tryz.prog 25 (#[.pointer (some ⟨p,0,none⟩)] ++ #[.pointer (some ⟨pn,0,none⟩)]) w fun e w'=>e = .returned (.tuple #[])∧GrewTo 40 5 w w' p r (encU 8 v):=by
  have H:=encU_any p r v [] w hv hb (by simp)
  clear hb hv
  go_enter Tryz.func25,Tryz.ntmps25
  go_wp2_with fail
  refine H.mono ?_
  clear H
  rintro e w1 ⟨rfl,hg⟩
  have G:=Lib.hid hg; clear hg
  go_wp2
  go_end0
  exact ⟨rfl,by simpa using G.out⟩
set_option maxRecDepth 100000 in
theorem implUvarint_any (v:Nat) (w:World) (hv:v<18446744073709551616) :
    Calls Tryz.prog 13 #[.int .u64 v] w fun e w'=>GivesBytes (encU 8 v) w e w':=by
  have hmf:∀ (fn:Fn) (first cap:Array Value) (w:World),(Instr.makeFunc fn first cap).run Tryz.prog w = .ok (.func fn first cap) w:=fun _ _ _ _=>rfl
  have H:=coded_any 25 #[.pointer (some ⟨w.heap.size,0,none⟩)] (encU 8 v) (w.alloc (.cells #[.int .u64 v] 42))
    (fun p w=>run_enter Tryz.func25 (by kernel_rfl) rfl _ w)
    (fun w1 p r hb hbel _=>uvarint_closure w.heap.size v p r w1 hv ((hbel.cell (p:=⟨w.heap.size,0,none⟩) (by simp)).trans (cell_of_one (heap_alloc_new w _))) hb)
  clear hv
  go_enter Tryz.func13,Tryz.ntmps13
  go_wp2_with fail
  refine H.mono ?_
  clear H
  rintro e w1 ⟨ao,n,c,rfl,⟨hby,hbel⟩⟩
  have G:Hid (GivesBytes (encU 8 v) w (.returned (.slice ao n c)) w1) :=
    ⟨ao,n,c,rfl,⟨⟨hby.1,fun k hk=>by have:=hby.2 k hk; simp at this; omega⟩,((Below.refl _ w).alloc (Nat.le_refl _) _).trans (hbel.mono (by simp))⟩⟩
  clear hby hbel
  go_wp2
  go_ret
  exact G.out
def IsTrue (w:World) (e:Ending) (w':World):Prop:=e = .returned (.bool true)∧Below w.heap.size w w'
set_option maxRecDepth 100000 in
theorem works_any (w:World):Calls Tryz.prog 8 #[] w fun e w'=>IsTrue w e w':=by
  have H:=implUvarint_any 1 w (by decide)
  go_enter Tryz.func8,Tryz.ntmps8
  go_wp2_with fail
  refine H.mono ?_
  clear H
  rintro e w1 ⟨ao,n,c,rfl,⟨⟨hown,_⟩,hbel⟩⟩
  have hst:=run_string_of_owned (P:=Tryz.prog) 40 5 9 Tryz.underlying40 Tryz.underlying5 Tryz.underlying9 hown
  have G:=Lib.hid hbel
  clear hown hbel
  go_wp2
  go_ret
  exact ⟨by show Ending.returned (.bool ((str (encU 8 1)).toList == [1]))=_; rw [show ((str (encU 8 1)).toList == [1])=true from by decide +kernel],G.out⟩
end Go.Proofs.YtllaekopaglolaaGreat
end
