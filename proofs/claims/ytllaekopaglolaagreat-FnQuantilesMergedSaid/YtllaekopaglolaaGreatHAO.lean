/-
  centerCounts,adjust,IsEmpty,min,max walked.
-/
import Derived.Test.YtllaekopaglolaaGreatHAN
section
namespace Go.Proofs.YtllaekopaglolaaGreat
open Go.RowKit
def zBW (f:Int→Nat) (c:Value) (mn mx:Int) (p g L cp:Nat) (rest:List Value) (T:TypeId) (w:World):Prop :=
  ∃ off:Int,DS w p rest T (.slice (some ⟨g,0,none⟩) L cp) c (.int .i64 off) (.int .i64 mn) (.int .i64 mx)∧Row w g L cp (fun j=>f (off+j))∧off≤mn∧mx<off+L ∧ -1000000≤off∧off≤1000000
theorem zBW.fr {f:Int→Nat} {c:Value} {mn mx:Int} {p g L cp:Nat} {rest:List Value} {T:TypeId} {w w':World} {S:Nat→Prop} (h:zBW f c mn mx p g L cp rest T w) (hf:Fr S w w') (hp:¬ S p) (hg:¬ S g):zBW f c mn mx p g L cp rest T w':=by
  obtain ⟨off,h1,h2,h3⟩:=h
  exact ⟨off,h1.fr hf hp,h2.fr hf hg,h3⟩
set_option maxRecDepth 100000 in
set_option maxHeartbeats 1000000 in
theorem zQ1 (f:Int→Nat) (c:Value) (mn mx nmn nmx:Int) (p g L cp:Nat) (rest:List Value) (T:TypeId) (w:World) (h:zBW f c mn mx p g L cp rest T w) (hpg:p≠g)
   (hf:∀ i,i<mn∨mx<i→f i=0) (h1:mn≤mx) (h2:nmn≤mn) (h3:mx≤nmx) (h4:nmx - nmn+1≤L) (b1:-100000≤nmn) (b2:nmx≤100000) (b3:L≤200000) :
    Calls Tryz.prog 189 #[.pointer (some ⟨p,0,none⟩),.int .i64 nmn,.int .i64 nmx] w fun e w'=>e = .returned (.tuple #[])∧zBW f c nmn nmx p g L cp rest T w'∧Fr (fun b=>b=p∨b=g) w w':=by
  obtain ⟨off,hd,hr,o1,o2,o3,o4⟩:=h
  obtain ⟨ma,hma⟩:∃ ma:Nat,mn=off+ma:=⟨(mn - off).toNat,by omega⟩
  obtain ⟨xa,hxa⟩:∃ xa:Nat,mx=off+xa:=⟨(mx - off).toNat,by omega⟩
  obtain ⟨q,hq⟩:∃ q:Int,q=(nmx - nmn+1) / 2:=⟨_,rfl⟩
  obtain ⟨l2,hl2⟩:∃ l2:Int,l2=(L:Int) / 2:=⟨_,rfl⟩
  obtain ⟨mid,hmid⟩:∃ mid:Int,mid=nmn+q:=⟨_,rfl⟩
  obtain ⟨d,hd0⟩:∃ d:Nat,(d:Int)=mn - mid+l2:=⟨(mn - mid+l2).toNat,by omega⟩
  obtain ⟨d0,-,d2,-,-⟩:=hd.cells
  rw [hma,hxa] at hd
  have HSH:=zRZ p g L cp ma xa d rest T (fun j=>f (off+j)) c off (off+l2 - mid) w.drew hd hr hpg (by omega) (by omega) (by omega) (by omega) (fun j hj=>hf _ (by omega)) o3 o4 (by omega)
  have i1:IntKind.i64.wrap (off+l2)=off+l2:=by rw [IntKind.wrap_i64]; omega
  have i2:IntKind.i64.wrap (off+l2 - mid)=off+l2 - mid:=by rw [IntKind.wrap_i64]; omega
  have i0:IntKind.i64.wrap ((L:Int).tdiv 2)=l2:=by rw [Int.tdiv_eq_ediv_of_nonneg (by omega),IntKind.wrap_i64]; omega
  have i3:(L:Int).tdiv 2=l2:=by rw [Int.tdiv_eq_ediv_of_nonneg (by omega),hl2]
  have i4:(nmx - nmn+1) / 2=q:=hq.symm
  have i6:IntKind.i64.wrap l2=l2:=by rw [IntKind.wrap_i64]; omega
  have i5:nmn+q=mid:=hmid.symm
  have g1:-100000≤mid:=by omega
  have g2:mid≤100000:=by omega
  have g3:nmn≤nmx:=by omega
  have g4:0≤q:=by omega
  have HM:=Lib.hid hmid
  have HMA:=Lib.hid hma
  have HXA:=Lib.hid hxa
  have HQ:=Lib.hid hq
  have HL2:=Lib.hid hl2
  have HD0:=Lib.hid hd0
  clear hma hxa hd0 hd hr hf hmid hq hl2
  go_enter Tryz.func189,Tryz.ntmps189
  go_wp2
  go_still_tail 14,(by kernel_rfl)
  show wpList _ _ _ _ _ w.drew
  go_wp2_with (go_at_call 190; (with_reducible refine HSH.mono ?_); rintro e w5 ⟨rfl,hd5,hr5,hf5⟩; have HD5:=Lib.hid hd5; have HR5:=Lib.hid hr5; have HF5:=Lib.hid hf5; have s3:=hd5.cells.2.2.2.1; have s4:=(hd5.set3 (.int .i64 nmn)).cells.2.2.2.2; have s3f:=hd5.free 3; have s4f:=(hd5.set3 (.int .i64 nmn)).free 4; clear hd5 hr5 hf5 d0 d2)
  go_end0
  refine ⟨rfl,⟨off - (off+l2 - mid),(HD5.out.set3 _).set4 _,?_,?_,?_,?_,?_⟩,?_⟩
  · have hr6:Row ((w5.setCell ⟨p,3,none⟩ (.int .i64 nmn)).setCell ⟨p,4,none⟩ (.int .i64 nmx)) g L cp _:=(HR5.out.other hpg _).other hpg _
    refine hr6.ext (fun j hj=>?_)
    show f (off+((j:Int) - (off+l2 - mid)))=f (off - (off+l2 - mid)+(j:Int))
    congr 1
    omega
  · have:=HM.out; have:=HQ.out; have:=HL2.out; omega
  · have:=HM.out; have:=HQ.out; have:=HL2.out; omega
  · have:=HM.out; have:=HQ.out; have:=HL2.out; omega
  · have:=HM.out; have:=HQ.out; have:=HL2.out; omega
  · have f2:Fr (fun b=>b=p∨b=g) w w5:=((Fr.refl _ w).drew).trans HF5.out (fun _ _ h=>h) (fun _ _ h=>h)
    exact (f2.setCell (fun _=>.inl rfl) _).setCell (fun _=>.inl rfl) _
set_option maxRecDepth 100000 in
theorem zC1 (f:Int→Nat) (c:Value) (mn mx nmn nmx:Int) (p g L cp:Nat) (rest:List Value) (T:TypeId) (w:World) (h:zBW f c mn mx p g L cp rest T w) (hpg:p≠g)
   (hf:∀ i,i<mn∨mx<i→f i=0) (h1:mn≤mx) (h2:nmn≤mn) (h3:mx≤nmx) (h4:nmx - nmn+1≤L) (b1:-100000≤nmn) (b2:nmx≤100000) (b3:L≤200000) :
    Calls Tryz.prog 188 #[.pointer (some ⟨p,0,none⟩),.int .i64 nmn,.int .i64 nmx] w fun e w'=>e = .returned (.tuple #[])∧zBW f c nmn nmx p g L cp rest T w'∧Fr (fun b=>b=p∨b=g) w w':=by
  have H:=zQ1 f c mn mx nmn nmx p g L cp rest T w h hpg hf h1 h2 h3 h4 b1 b2 b3
  clear h hf h4
  go_enter Tryz.func188,Tryz.ntmps188
  go_wp2_with (go_at_call 189; (with_reducible refine H.mono ?_); rintro e w5 ⟨rfl,hd5,hf5⟩; have HD5:=Lib.hid hd5; have HF5:=Lib.hid hf5; clear hd5 hf5)
  go_end0
  exact ⟨rfl,HD5.out,HF5.out⟩
set_option maxRecDepth 100000 in
theorem zCb (p:Nat) (n:Nat) (hn:n<9007199254740992) (w:World) (h:w.cell? ⟨p,1,none⟩=some (.float .f64 (nf n))) :
    Calls Tryz.prog 175 #[.pointer (some ⟨p,0,none⟩)] w fun e w'=>e = .returned (.bool (n == 0))∧w=w':=by
  have ho:(FloatKind.f64.format.order (nf n) 0 == some .eq)=(n == 0):=by
    have:=zBn n 0 hn (by decide)
    rw [zAp] at this
    rw [this]
    rcases Nat.eq_zero_or_pos n with h | h
    · subst h; rfl
    · rw [Nat.compare_eq_gt.2 h]
      have:(n == 0)=false:=by simp; omega
      rw [this]; rfl
  generalize nf n=y at h ho
  generalize (n == 0)=b at ho
  go_enter Tryz.func175,Tryz.ntmps175
  go_wp2
  go_ret
  exact ⟨rfl,rfl⟩
set_option maxRecDepth 100000 in
theorem zOA (x y:Int) (w:World):Calls Tryz.prog 185 #[.int .i64 x,.int .i64 y] w fun e w'=>e = .returned (.int .i64 (min x y))∧w=w':=by
  by_cases h:x<y
  · have e:min x y=x:=by omega
    rw [e]
    clear e
    go_enter Tryz.func185,Tryz.ntmps185
    go_wp2
    go_ret
    exact ⟨rfl,rfl⟩
  · have e:min x y=y:=by omega
    rw [e]
    clear e
    go_enter Tryz.func185,Tryz.ntmps185
    go_wp2
    go_ret
    exact ⟨rfl,rfl⟩
set_option maxRecDepth 100000 in
theorem zOB (x y:Int) (w:World):Calls Tryz.prog 186 #[.int .i64 x,.int .i64 y] w fun e w'=>e = .returned (.int .i64 (max x y))∧w=w':=by
  by_cases h:y<x
  · have e:max x y=x:=by omega
    rw [e]
    clear e
    go_enter Tryz.func186,Tryz.ntmps186
    go_wp2
    go_ret
    exact ⟨rfl,rfl⟩
  · have e:max x y=y:=by omega
    rw [e]
    clear e
    go_enter Tryz.func186,Tryz.ntmps186
    go_wp2
    go_ret
    exact ⟨rfl,rfl⟩
end Go.Proofs.YtllaekopaglolaaGreat
end
/-
  getNewLength: the floats give at least as many places as are wanted,and not many more.
-/
section
namespace Go.Proofs.YtllaekopaglolaaGreat
open Go.RowKit Ieee
set_option exponentiation.threshold 5000
theorem zUb {z Z:Nat} (h:Is z Z) (hlo:2^1074≤Z) (hhi:Z<2^62*2^1074):floatToIntVal .f64 z .i64=some ((Z / 2^1074:Nat):Int):=by
  obtain ⟨m,i,h1,h2,h3⟩:=h
  have hT:=Nat.two_pow_pos 1074
  have e:1074+i.toNat=(i+1074).toNat+(-i).toNat:=by omega
  have e2:m*2^i.toNat*2^1074=Z*2^(-i).toNat:=by
    rw [← h3,Nat.mul_assoc,← Nat.pow_add,Nat.add_comm,e,Nat.pow_add,Nat.mul_assoc]
  have hcut:Toward.zero.cut false (m <<< i.toNat) (-i).toNat=Z / 2^1074:=by
    rw [Nat.shiftLeft_eq]
    obtain ⟨M,hM⟩:∃ M,M=m*2^i.toNat:=⟨_,rfl⟩
    rw [← hM] at e2 ⊢
    have hlow:2^(-i).toNat≤M:=by
      refine Nat.le_of_mul_le_mul_right ?_ hT
      rw [e2,Nat.mul_comm (2^(-i).toNat)]
      exact Nat.mul_le_mul_right _ hlo
    generalize (-i).toNat=d at *
    have hd0:=Nat.two_pow_pos d
    have hM0:M≠0:=by omega
    have hl:d≤M.log2+2:=by have:=(Nat.le_log2 hM0).2 hlow; omega
    unfold Toward.cut
    simp only [Bool.toNat_false,Nat.add_zero,Nat.one_shiftLeft,Nat.min_eq_left hl]
    rw [← Nat.mul_div_mul_right M (2^d) hT,e2,Nat.mul_comm (2^d),Nat.mul_div_mul_right Z (2^1074) hd0]
  have hk:Z / 2^1074<2^62:=(Nat.div_lt_iff_lt_mul hT).2 hhi
  unfold floatToIntVal
  have hrd:FloatKind.f64.decode z=double.read z:=rfl
  rw [hrd,h1]
  simp only [Datum.toInt,Datum.integral,hcut]
  generalize Z / 2^1074=k at *
  have hsk:signed false k 0=(k:Int):=by rw [zAn]; simp
  rw [hsk]
  have hb:IntKind.i64.min≤(k:Int)∧(k:Int)≤IntKind.i64.max:=by
    have e1:IntKind.i64.min = -9223372036854775808:=by decide
    have e2:IntKind.i64.max=9223372036854775807:=by decide
    have e3:(2:Nat)^62=4611686018427387904:=by decide
    rw [e1,e2]; omega
  rw [if_pos hb]
theorem zUc:Is 4591870180066957722 (7205759403792794*2^1018):=⟨7205759403792794,-56,by decide +kernel,by decide,by decide +kernel⟩
theorem zTm:2^1074≤10*(7205759403792794*2^1018):=by decide +kernel
theorem zTn:2^50*(10*(7205759403792794*2^1018))≤2^50*2^1074+2^1074:=by decide +kernel
theorem zJZ (d:Nat) (h1:1≤d) (h2:d≤100000):∃ q r1 r2 k:Nat,floatBits .quo .f64 (nf (d+63)) 4591870180066957722=some q∧floatBits .add .f64 q 4607182418800017408=some r1 ∧
    floatBits .mul .f64 r1 4591870180066957722=some r2∧floatToIntVal .f64 r2 .i64=some (k:Int)∧d≤k∧k≤2*d+1000:=by
  obtain ⟨n,hn⟩:∃ n,n=d+63:=⟨_,rfl⟩
  rw [← hn]
  obtain ⟨T,hT⟩:∃ T,T=2^1074:=⟨_,rfl⟩
  obtain ⟨W,hW⟩:∃ W,W=7205759403792794*2^1018:=⟨_,rfl⟩
  have iW:=zUc
  have tlo:=zTm
  have thi:=zTn
  rw [← hW] at iW tlo thi
  have iN:=Is.nf (n:=n) (by omega)
  have iO:=Is.nf (n:=1) (by decide)
  rw [zCs] at iO
  have p1000:2^1000≤T:=by rw [hT]; exact Nat.pow_le_pow_right (by decide) (by decide)
  have hTpos:0<T:=by rw [hT]; exact Nat.two_pow_pos _
  have hAlo:2^1000≤n*2^1074:=by rw [← hT]; exact Nat.le_trans p1000 (Nat.le_mul_of_pos_left T (by omega))
  have hAhi:n*2^1074<2^1200:=by
    calc n*2^1074≤200000*2^1074:=Nat.mul_le_mul_right _ (by omega)
      _<2^1200:=by decide +kernel
  obtain ⟨q,Zq,U,hq,iq,nq1,nq2⟩:=zW0 iN iW hAlo hAhi (by rw [hW]; decide +kernel) (by rw [hW]; decide +kernel)
  rw [← hT] at nq2 tlo thi iN iO hAlo hAhi
  rw [Nat.one_mul] at iO
  have r50:(2:Nat)^50=1125899906842624:=by decide
  unfold zEe at nq1 nq2
  rw [r50] at nq1 nq2 thi
  have ua:1125899906842624*U≤11258999068426250*(n*T):=by
    refine Nat.le_of_mul_le_mul_right ?_ hTpos
    have a1:=Nat.mul_le_mul_left 10 nq2.1
    have a2:=Nat.mul_le_mul_left (1125899906842624*U) tlo
    calc 1125899906842624*U*T≤1125899906842624*U*(10*W):=a2
      _=10*(1125899906842624*(U*W)):=by ac_rfl
      _≤10*(1125899906842624*(n*T*T)+n*T*T):=a1
      _=11258999068426250*(n*T)*T:=by rw [← Nat.succ_mul]; rw [Nat.mul_assoc 11258999068426250]; omega
  have ub:11258999068426230*(n*T)≤1125899906842625*U:=by
    refine Nat.le_of_mul_le_mul_right ?_ hTpos
    have a1:=Nat.mul_le_mul_left 10 nq2.2
    have a2:=Nat.mul_le_mul_left U thi
    have e1:10*(1125899906842624*(U*W)+n*T*T)=U*(1125899906842624*(10*W))+10*(n*T*T):=by rw [Nat.mul_add]; congr 1; ac_rfl
    rw [e1] at a1
    have e2:U*(1125899906842624*T+T)=1125899906842625*U*T:=by rw [Nat.mul_add,show 1125899906842625=1125899906842624+1 from rfl,Nat.add_mul,Nat.add_mul,Nat.one_mul]; congr 1; ac_rfl
    rw [e2] at a2
    rw [Nat.mul_assoc 11258999068426230]
    omega
  obtain ⟨A,hA⟩:∃ A,A=n*T:=⟨_,rfl⟩
  rw [← hA] at ua ub hAlo hAhi iN
  have hTA:T≤A:=by rw [hA]; exact Nat.le_mul_of_pos_left T (by omega)
  have q1:999999970*A≤100000000*Zq∧100000000*Zq≤1000000030*A:=by
    clear nq2 thi tlo
    have s1:999999990*A≤100000000*U∧100000000*U≤1000000010*A:=by omega
    clear ua ub
    omega
  clear nq1 nq2 ua ub
  have hZqlo:2^60≤Zq+T:=Nat.le_trans (Nat.le_trans (Nat.pow_le_pow_right (by decide) (by decide)) p1000) (Nat.le_add_left _ _)
  have hZA:Zq+T≤12*A:=by omega
  have hZqhi:Zq+T<2^2000:=by
    refine Nat.lt_of_le_of_lt hZA ?_
    refine Nat.lt_of_lt_of_le (Nat.mul_lt_mul_of_pos_left hAhi (by decide)) ?_
    decide +kernel
  obtain ⟨r1,Z1,hr1,ir1,nr1⟩:=zW1 iq iO hZqlo hZqhi
  unfold zEe at nr1
  rw [r50] at nr1
  have z1:99999995*(10*A+T)≤100000000*Z1∧100000000*Z1≤100000005*(10*A+T):=by
    clear thi tlo
    have s1:99999999*(Zq+T)≤100000000*Z1∧100000000*Z1≤100000001*(Zq+T):=by omega
    clear nr1
    omega
  clear nr1 q1
  have hZ1lo:T≤Z1:=by omega
  have hZ1hi:Z1≤12*A:=by omega
  have h600:2^600≤T:=Nat.le_trans (Nat.pow_le_pow_right (by decide) (by decide)) p1000
  have hWlo:2^600≤W:=by rw [hW]; decide +kernel
  obtain ⟨r2,Z2,U2,hr2,ir2,hU2,nr2⟩:=zWz ir1 iW (Nat.le_trans h600 hZ1lo) hWlo
    (by
      have:2^1000*2^600≤Z1*W:=Nat.mul_le_mul (Nat.le_trans p1000 hZ1lo) hWlo
      exact Nat.le_trans (by decide +kernel) this)
    (by
      have h1:Z1*W≤12*A*W:=Nat.mul_le_mul_right _ hZ1hi
      have h2:12*A*W≤12*2^1200*W:=Nat.mul_le_mul_right _ (Nat.mul_le_mul_left _ (Nat.le_of_lt hAhi))
      refine Nat.lt_of_le_of_lt (Nat.le_trans h1 h2) ?_
      rw [hW]
      decide +kernel)
  unfold zEe at nr2
  rw [r50] at nr2
  rw [← hT] at hU2
  have u1:Z1≤10*U2:=by
    refine Nat.le_of_mul_le_mul_right ?_ hTpos
    calc Z1*T≤Z1*(10*W):=Nat.mul_le_mul_left _ tlo
      _=10*(Z1*W):=by ac_rfl
      _=10*U2*T:=by rw [← hU2,Nat.mul_assoc]
  have u2:11258999068426240*U2≤1125899906842625*Z1:=by
    refine Nat.le_of_mul_le_mul_right ?_ hTpos
    have a:=Nat.mul_le_mul_left Z1 thi
    have e1:Z1*(1125899906842624*(10*W))=11258999068426240*U2*T:=by
      rw [Nat.mul_assoc 11258999068426240,hU2,show 11258999068426240=1125899906842624*10 from rfl]; ac_rfl
    have e2:Z1*(1125899906842624*T+T)=1125899906842625*Z1*T:=by rw [Nat.mul_add,show 1125899906842625=1125899906842624+1 from rfl,Nat.add_mul,Nat.add_mul,Nat.one_mul]; congr 1; ac_rfl
    rw [e1,e2] at a
    exact a
  have z2:99999992*(10*A+T)≤1000000000*Z2∧1000000000*Z2≤100000008*(10*A+T):=by
    clear thi tlo hU2
    have s1:99999999*Z1≤1000000000*U2∧1000000000*U2≤100000001*Z1:=by omega
    clear u1 u2
    have s2:99999999*U2≤100000000*Z2∧100000000*Z2≤100000001*U2:=by omega
    clear nr2
    omega
  clear nr2 u1 u2 z1 thi tlo hU2
  have hZ2T:T≤Z2:=by omega
  have hZ2hi:Z2<2^62*T:=by
    have h1:Z2≤3*A:=by omega
    have h2:3*A≤3*200000*T:=by rw [hA,Nat.mul_assoc]; exact Nat.mul_le_mul_left _ (Nat.mul_le_mul_right _ (by omega))
    refine Nat.lt_of_le_of_lt (Nat.le_trans h1 h2) (Nat.mul_lt_mul_of_pos_right ?_ hTpos)
    decide
  rw [hT] at hZ2T hZ2hi
  have hint:=zUb ir2 hZ2T hZ2hi
  rw [← hT] at hint
  obtain ⟨k,hk⟩:∃ k,k=Z2 / T:=⟨_,rfl⟩
  rw [← hk] at hint
  have k1:k*T≤Z2:=by rw [hk]; exact Nat.div_mul_le_self _ _
  have k2:Z2<(k+1)*T:=by
    have h1:=Nat.div_add_mod Z2 T
    have h2:=Nat.mod_lt Z2 hTpos
    rw [Nat.mul_comm,← hk] at h1
    rw [Nat.add_mul,Nat.one_mul]
    omega
  refine ⟨q,r1,r2,k,hq,hr1,hr2,hint,?_,?_⟩
  · have:99999992*(10*n+1)*T<1000000000*(k+1)*T:=by
      have e1:99999992*(10*n+1)*T=99999992*(10*A+T):=by rw [hA,Nat.mul_assoc,Nat.add_mul,Nat.one_mul,Nat.mul_assoc]
      rw [e1]
      refine Nat.lt_of_le_of_lt z2.1 ?_
      rw [Nat.mul_assoc]
      exact Nat.mul_lt_mul_of_pos_left k2 (by decide)
    have:=Nat.lt_of_mul_lt_mul_right this
    omega
  · have:1000000000*k*T≤100000008*(10*n+1)*T:=by
      have e1:100000008*(10*n+1)*T=100000008*(10*A+T):=by rw [hA,Nat.mul_assoc,Nat.add_mul,Nat.one_mul,Nat.mul_assoc]
      rw [e1]
      refine Nat.le_trans ?_ z2.2
      rw [Nat.mul_assoc]
      exact Nat.mul_le_mul_left _ k1
    have:=Nat.le_of_mul_le_mul_right this hTpos
    omega
def zVF (d:Nat) (w:World) (e:Ending) (w':World):Prop:=∃ k:Nat,d≤k∧k≤2*d+1000∧e = .returned (.int .i64 (k:Int))∧w=w'
set_option maxRecDepth 100000 in
theorem zIC (d:Nat) (a b:Int) (s:Value) (w:World) (h1:1≤d) (h2:d≤100000) (hd:b - a+1=(d:Int)) (_ha:-1000000≤a) (_ha2:a≤1000000) :
    Calls Tryz.prog 187 #[s,.int .i64 a,.int .i64 b] w fun e w'=>zVF d w e w':=by
  obtain ⟨q,r1,r2,k,hq,hr1,hr2,hk,k1,k2⟩:=zJZ d h1 h2
  have hcF:=fun w=>run_convert_int_float (P:=Tryz.prog) w 3 29 .i64 .f64 ((d:Int)+64 - 1) (by simp [Tryz.underlying3]) Tryz.underlying29
  have hnf:floatOfInt .f64 ((d:Int)+64 - 1)=nf (d+63):=by unfold nf; congr 1; omega
  rw [hnf] at hcF
  have e1:=fun w:World=>run_float_arith (P:=Tryz.prog) w .quo 29 .f64 _ _ _ hq
  have e2:=fun w:World=>run_float_arith (P:=Tryz.prog) w .add 29 .f64 _ _ _ hr1
  have e3:=fun w:World=>run_float_arith (P:=Tryz.prog) w .mul 29 .f64 _ _ _ hr2
  have hcI:=fun w=>run_convert_float_int (P:=Tryz.prog) w 29 3 .f64 .i64 r2 (k:Int) (by simp [Tryz.underlying29]) Tryz.underlying3 hk
  clear hq hr1 hr2 hk hnf
  revert hcF e1
  generalize nf (d+63)=y
  intro hcF e1
  go_enter Tryz.func187,Tryz.ntmps187
  go_wp2
  go_ret
  exact ⟨k,k1,k2,rfl,rfl⟩
end Go.Proofs.YtllaekopaglolaaGreat
end
