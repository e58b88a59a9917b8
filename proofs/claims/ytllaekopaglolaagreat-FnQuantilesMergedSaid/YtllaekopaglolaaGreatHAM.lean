/-
  Slices of bins (an index and a count,two cells each),plainly: what such a slice reads as; an append of one bin.
-/
import Derived.Test.YtllaekopaglolaaGreatHAA
import Derived.Test.YtllaekopaglolaaGreatProg
import Derived.Test.YtllaekopaglolaaGreatHAC
import Derived.Deep.QuietTactic
import Derived.BigQuiet
section
namespace Go.Proofs.YtllaekopaglolaaGreat
open Go.RowKit
def pc:List (Int × Nat)→List Value
  | []=>[]
  | p :: t=>.int .i64 p.1 :: .float .f64 p.2 :: pc t
theorem zRw (ps:List (Int × Nat)):(pc ps).length=ps.length*2:=by
  induction ps with
  | nil=>rfl
  | cons p t ih=>simp [pc,ih]; omega
theorem zRx (ps qs:List (Int × Nat)):pc (ps++qs)=pc ps++pc qs:=by
  induction ps with
  | nil=>rfl
  | cons p t ih=>simp [pc,ih]
theorem zWh (ps:List (Int × Nat)):∀ u∈pc ps,u.oneCell'=true:=by
  induction ps with
  | nil=>intro u h; cases h
  | cons p t ih =>
    intro u h
    rcases List.mem_cons.1 h with rfl | h
    · rfl
    · rcases List.mem_cons.1 h with rfl | h
      · rfl
      · exact ih u h
theorem zVs (ps:List (Int × Nat)):∀ i,(h:i<ps.length)→(pc ps)[i*2]?=some (.int .i64 ps[i].1):=by
  induction ps with
  | nil=>intro i h; cases h
  | cons p t ih =>
    intro i h
    cases i with
    | zero=>rfl
    | succ i=>rw [show (i+1)*2=i*2+1+1 from by omega]; simpa [pc] using ih i (by simpa using h)
theorem zVr (ps:List (Int × Nat)):∀ i,(h:i<ps.length)→(pc ps)[i*2+1]?=some (.float .f64 ps[i].2):=by
  induction ps with
  | nil=>intro i h; cases h
  | cons p t ih =>
    intro i h
    cases i with
    | zero=>rfl
    | succ i=>rw [show (i+1)*2+1=i*2+1+1+1 from by omega]; simpa [pc] using ih i (by simpa using h)
def Lie2 (w:World) (ao:Option Addr) (ps:List (Int × Nat)):Prop :=
  ps=[]∨∃ g off,ao=some ⟨g,off,none⟩∧∀ i,(h:i<ps.length)→w.cell? ⟨g,off+i*2,none⟩=some (.int .i64 ps[i].1)∧w.cell? ⟨g,off+i*2+1,none⟩=some (.float .f64 ps[i].2)
theorem Lie2.later {w w':World} {ao:Option Addr} {ps:List (Int × Nat)} (h:Lie2 w ao ps) (hb:Below w.heap.size w w'):Lie2 w' ao ps:=by
  rcases h with h | ⟨g,off,rfl,h⟩
  · exact .inl h
  · refine .inr ⟨g,off,rfl,fun i hi=>?_⟩
    obtain ⟨h0,h1⟩:=h i hi
    exact ⟨(hb.cell (World.block_lt_of_cell? w _ h0)).trans h0,(hb.cell (World.block_lt_of_cell? w _ h1)).trans h1⟩
def Own2 (e:TypeId) (w w':World) (v:Value) (ps:List (Int × Nat)):Prop :=
  (w'.ownsRow 0 e 2 v ps.length (pc ps)∧∀ k,v.ownBlock=some k→w.heap.size≤k)∧Below w.heap.size w w'
theorem zJi {e:TypeId} {w:World} {ao:Option Addr} {n' c n:Nat} {ps:List (Int × Nat)} (h:w.ownsRow 0 e 2 (.slice ao n' c) n (pc ps)):n'=ps.length∧n'≤c∧c≤maxLen∧Lie2 w ao ps:=by
  have hl:ps.length=n:=by have:=h.1; rw [zRw] at this; omega
  rcases h.2 with ⟨h1,h2⟩ | ⟨g,cap,cur,h1,_,hh,hc,hm,_⟩
  · cases h1
    have:ps=[]:=List.eq_nil_of_length_eq_zero (by omega)
    exact ⟨by omega,Nat.le_refl _,Nat.zero_le _,.inl this⟩
  · cases h1
    refine ⟨hl.symm,hc,hm,.inr ⟨g,0,rfl,fun i hi=>?_⟩⟩
    have hadd:∀ j,(⟨g,0,none⟩:Addr).add j=⟨g,0+j,none⟩:=fun j=>by unfold Addr.add; split <;> simp_all
    have a0:=h.cells (g:=g) rfl (i*2) _ (zVs ps i hi)
    have a1:=h.cells (g:=g) rfl (i*2+1) _ (zVr ps i hi)
    rw [hadd] at a0 a1
    exact ⟨a0,a1⟩
section
variable {P:Program}
theorem zEz (w:World) (B:Nat) (hB:w.heap.size=B) (i:Int) (b:Nat) {ops:Array Oper} {rest:List Oper} {o:Oper} {a:Act} {Q:Exit→Act→World→Prop} (hgd:o.guard=none) (s x:Operand) (tS tE:TypeId)
    (ho:o.op = .call { callee:=.builtin .append,args:=#[s,x],argTypes:=#[tS,tS] })
    (z:Value) (bytes:Nat) (ht:P.underlying tS=some (.slice tE)) (hinfo:(P.info? tE).map (fun i=>(i.zero,i.size,i.bytes))=some (some z,2,bytes)) (hz:z.cells.size=2)
    (v:Value) (n:Nat) (ps:List (Int × Nat)) (hs:a.eval s=v) (hown:w.ownsRow 0 tE 2 v n (pc ps)) (hx:a.eval x = .slice (some ⟨B,0,none⟩) 1 1) (hn:n<1000000000000) (hby:bytes≤32)
    (h:∀ ao cp w1,w1.ownsRow 0 tE 2 (.slice ao (n+1) cp) (n+1) (pc (ps++[(i,b)]))→(w.alloc (.cells #[.int .i64 i,.float .f64 b] tE)).grownBy w1 v.ownBlock →
      ((Value.slice ao (n+1) cp).ownBlock=v.ownBlock∨(Value.slice ao (n+1) cp).ownBlock=some (B+1))→wpList P ops Q rest (a.put o.dst (.slice ao (n+1) cp)) w1):wpList P ops Q (o :: rest) a (w.alloc (.cells #[.int .i64 i,.float .f64 b] tE)):=by
  subst hB
  obtain ⟨i0,hi,hz0,hz1,hz2⟩:=info_parts hinfo
  have hnew:∀ j u,(pc [(i,b)])[j]?=some u→(w.alloc (.cells #[.int .i64 i,.float .f64 b] tE)).cell? ((⟨w.heap.size,0,none⟩:Addr).add j)=some u:=by
    intro j u hj
    have hadd:(⟨w.heap.size,0,none⟩:Addr).add j=⟨w.heap.size,0+j,none⟩:=by unfold Addr.add; split <;> simp_all
    rw [hadd,cell_of_row _ _ _ _ _ _ (heap_alloc_new w (.cells #[.int .i64 i,.float .f64 b] tE))]
    simpa [pc] using hj
  refine zAi _ hgd s x tS ho tE i0 z 2 bytes ht hi hz0 hz1 hz2 hz (by decide) v n (pc ps) hs (hown.alloc _) ⟨w.heap.size,0,none⟩ 1 1 (pc [(i,b)]) hx rfl hnew (zWh _) ?_ ?_ ?_
  · unfold maxLen; omega
  · have:(n+1)*bytes≤(n+1)*32:=Nat.mul_le_mul_left _ hby
    omega
  · intro v' w1 h1 h2 h3
    rw [← zRx] at h1
    obtain ⟨ao,n1,cp,rfl⟩:=zAR h1
    obtain rfl:=zAo h1
    exact h ao cp w1 h1 h2 (by simpa using h3)
end
theorem Own2.step {e:TypeId} {w wr w1:World} {v v':Value} {ps:List (Int × Nat)} {i:Int} {b:Nat} {o:Obj} (h:Own2 e w wr v ps)
    (hown':w1.ownsRow 0 e 2 v' (ps.length+1) (pc (ps++[(i,b)]))) (hg:(wr.alloc o).grownBy w1 v.ownBlock) (hv:v'.ownBlock=v.ownBlock∨v'.ownBlock=some (wr.heap.size+1)) :
    Own2 e w w1 v' (ps++[(i,b)]):=by
  have hz:=h.2.size
  refine ⟨⟨by simpa using hown',?_⟩,(h.2.alloc hz _).grown hg (by simp; omega) h.1.2⟩
  intro k hk
  rcases hv with hv | hv
  · exact h.1.2 k (hv ▸ hk)
  · rw [hv] at hk; cases hk; omega
end Go.Proofs.YtllaekopaglolaaGreat
end
/-
  laws.bins: the bins of the reference. (The part that speaks of no program.)
-/
section
namespace Go.Proofs.YtllaekopaglolaaGreat
open Go.RowKit
def zXT (t:TypeId) (ps:List (Int × Nat)) (w:World) (e:Ending) (w':World):Prop :=
  ∃ ao c,e = .returned (.slice ao ps.length c)∧Own2 t w w' (.slice ao ps.length c) ps
end Go.Proofs.YtllaekopaglolaaGreat
end
/-
  Whole numbers below 2^53 as floats: sums,products and comparisons of them are those of the numbers; a float that is equal to one has its bits.
-/
section
namespace Go.Proofs.YtllaekopaglolaaGreat
open Ieee
set_option exponentiation.threshold 3000
def nf (n:Nat):Nat:=floatOfInt .f64 (n:Int)
theorem zWl (n:Nat):nf n=double.nearest false n 0:=by
  unfold nf floatOfInt FloatKind.nearest FloatKind.encode FloatKind.format Format.write
  have h:¬ ((n:Int)<0):=by omega
  simp [h]
theorem zWd (n:Nat):sv false n 0=(n:Int)*2^1074:=by
  unfold sv; rw [zAn]; simp
theorem zBf (n:Nat) (hn:n<9007199254740992):∃ m i,double.read (nf n) = .number false m i ∧ -1074≤i∧sv false m i=(n:Int)*2^1074:=by
  obtain ⟨m,i,h1,h2,h3⟩:=zIj false n 0 n 1074 (by omega) (by simp) rfl hn
  exact ⟨m,i,by rw [zWl]; exact h1,h2,by rw [h3,zWd]⟩
theorem zCS (m:Nat) (i:Int):sv false m i=((m*2^(i+1074).toNat:Nat):Int):=by
  unfold sv; rw [zAn]; simp
theorem zFr (mag:Nat) (place:Int) (N:Nat) (hp:-1074≤place) (h:mag*2^(place+1074).toNat=N*2^1074) (hN:N<9007199254740992):double.nearest false mag place=nf N:=by
  rw [zWl]
  by_cases h0:N=0
  · subst h0
    have hm:mag=0:=by
      rw [Nat.zero_mul] at h
      rcases Nat.mul_eq_zero.1 h with h | h
      · exact h
      · exact absurd h (Nat.ne_of_gt (Nat.two_pow_pos _))
    subst hm
    unfold Format.nearest; simp
  · have hl:N.log2≤52:=by
      have:N.log2<53:=(Nat.log2_lt h0).2 (by omega)
      omega
    have hp1:2^N.log2≤N:=Nat.log2_self_le h0
    have hp2:N<2^(N.log2+1):=Nat.lt_log2_self
    have q1:(2:Nat)^52=4503599627370496:=by decide
    have hK:4503599627370496≤N*2^(52 - N.log2):=by
      rw [← q1,show 52=N.log2+(52 - N.log2) from by omega,Nat.pow_add]
      have e:N.log2+(52 - N.log2) - N.log2=52 - N.log2:=by omega
      rw [e]
      exact Nat.mul_le_mul_right _ hp1
    have hK2:N*2^(52 - N.log2)<9007199254740992:=by
      have e:9007199254740992=2^(N.log2+1)*2^(52 - N.log2):=by
        rw [← Nat.pow_add,show N.log2+1+(52 - N.log2)=53 from by omega]
      rw [e]
      exact Nat.mul_lt_mul_of_pos_right hp2 (Nat.two_pow_pos _)
    have hv:N*2^1074=N*2^(52 - N.log2)*2^(1074+N.log2 - 52):=by rw [Nat.mul_assoc,← Nat.pow_add]; congr 2; omega
    rw [zCD false mag place _ (1074+N.log2 - 52) hp (by rw [h,hv]) hK hK2 (by omega),zCD false N 0 _ (1074+N.log2 - 52) (by omega) (by rw [← hv]; rfl) hK hK2 (by omega)]
theorem zCM:(0:Int)<2^1074:=Int.pow_pos (by decide)
theorem zAz (a b:Nat) (h:a+b<9007199254740992):floatBits .add .f64 (nf a) (nf b)=some (nf (a+b)):=by
  obtain ⟨m,i,h1,h2,h3⟩:=zBf a (by omega)
  obtain ⟨n,j,k1,k2,k3⟩:=zBf b (by omega)
  show ((double.read (nf a)).sum (double.read (nf b))).map double.write=_
  rw [h1,k1]
  obtain ⟨ns,mg,q,hs,hq,hv,hz⟩:=zNm false false m n i j h2 k2
  rw [hs,Option.map_some]
  congr 1
  have hval:sv ns mg q=((a+b:Nat):Int)*2^1074:=by rw [hv,h3,k3,← Int.add_mul]; congr 1
  have hns:ns=false:=by
    cases ns with
    | false=>rfl
    | true =>
      by_cases hm:mg=0
      · exact hz hm
      · exfalso
        unfold sv at hval
        rw [zAn] at hval
        have p1:(0:Int)<(mg:Int)*2^(q+1074).toNat:=Int.mul_pos (by omega) (zBN _)
        have p2:(0:Int)≤((a+b:Nat):Int)*2^1074:=Int.mul_nonneg (by omega) (Int.le_of_lt zCM)
        simp at hval
        omega
  subst hns
  show double.nearest false mg q=_
  refine zFr mg q (a+b) hq ?_ h
  rw [zCS] at hval
  have:((mg*2^(q+1074).toNat:Nat):Int)=(((a+b)*2^1074:Nat):Int):=by rw [hval,Int.natCast_mul,Int.natCast_pow]; rfl
  exact Int.ofNat.inj this
theorem zBn (a b:Nat) (ha:a<9007199254740992) (hb:b<9007199254740992):FloatKind.f64.format.order (nf a) (nf b)=some (compare a b):=by
  obtain ⟨m,i,h1,h2,h3⟩:=zBf a ha
  obtain ⟨n,j,k1,k2,k3⟩:=zBf b hb
  show (double.read (nf a)).order (double.read (nf b))=_
  rw [h1,k1,zCC _ _ _ _ _ _ h2 k2,h3,k3,zJ7]
  congr 1
  rcases Nat.lt_trichotomy a b with h | h | h
  · rw [Nat.compare_eq_lt.2 h,Int.compare_eq_lt.2 (by omega)]
  · subst h; simp
  · rw [Nat.compare_eq_gt.2 h,Int.compare_eq_gt.2 (by omega)]
theorem zN7 (n:Nat) (h0:0<n) (hn:n<9007199254740992) {m:Nat} {i:Int} (h:double.read (nf n) = .number false m i):-53<i:=by
  obtain ⟨m',i',h1,h2,h3⟩:=zBf n hn
  rw [h] at h1
  cases h1
  obtain ⟨_,_,hm⟩:=zAT h
  rw [zCS] at h3
  have e:m*2^(i+1074).toNat=n*2^1074:=by
    have:((m*2^(i+1074).toNat:Nat):Int)=((n*2^1074:Nat):Int):=by rw [h3,Int.natCast_mul,Int.natCast_pow]; rfl
    exact Int.ofNat.inj this
  by_cases hi:-53<i
  · exact hi
  · exfalso
    have hle:(i+1074).toNat≤1021:=by omega
    have q1:(2:Nat)^(i+1074).toNat≤2^1021:=Nat.pow_le_pow_right (by decide) hle
    have q2:m*2^(i+1074).toNat≤9007199254740991*2^1021:=Nat.mul_le_mul (by omega) q1
    have q3:1*2^1074≤n*2^1074:=Nat.mul_le_mul_right _ h0
    have q4:(9007199254740991:Nat)*2^1021<1*2^1074:=by decide +kernel
    omega
theorem zWk (a b:Nat) (ha:0<a) (hb:0<b) (h:a*b<9007199254740992):floatBits .mul .f64 (nf a) (nf b)=some (nf (a*b)):=by
  have ha2:a<9007199254740992:=Nat.lt_of_le_of_lt (Nat.le_mul_of_pos_right a hb) h
  have hb2:b<9007199254740992:=Nat.lt_of_le_of_lt (Nat.le_mul_of_pos_left b ha) h
  obtain ⟨m,i,h1,h2,h3⟩:=zBf a ha2
  obtain ⟨n,j,k1,k2,k3⟩:=zBf b hb2
  have p1:=zN7 a ha ha2 h1
  have p2:=zN7 b hb hb2 k1
  show ((double.read (nf a)).product (double.read (nf b))).map double.write=_
  rw [h1,k1]
  show some (double.nearest _ (m*n) (i+j))=_
  congr 1
  refine zFr (m*n) (i+j) (a*b) (by omega) ?_ h
  rw [zCS] at h3 k3
  have e1:m*2^(i+1074).toNat=a*2^1074:=by
    have:((m*2^(i+1074).toNat:Nat):Int)=((a*2^1074:Nat):Int):=by rw [h3,Int.natCast_mul,Int.natCast_pow]; rfl
    exact Int.ofNat.inj this
  have e2:n*2^(j+1074).toNat=b*2^1074:=by
    have:((n*2^(j+1074).toNat:Nat):Int)=((b*2^1074:Nat):Int):=by rw [k3,Int.natCast_mul,Int.natCast_pow]; rfl
    exact Int.ofNat.inj this
  have e3:(i+1074).toNat+(j+1074).toNat=(i+j+1074).toNat+1074:=by omega
  refine Nat.eq_of_mul_eq_mul_right (Nat.two_pow_pos 1074) ?_
  calc m*n*2^(i+j+1074).toNat*2^1074=m*n*(2^(i+1074).toNat*2^(j+1074).toNat):=by rw [Nat.mul_assoc (m*n),← Nat.pow_add,← Nat.pow_add,e3]
    _=(m*2^(i+1074).toNat)*(n*2^(j+1074).toNat):=by ac_rfl
    _=(a*2^1074)*(b*2^1074):=by rw [e1,e2]
    _=a*b*2^1074*2^1074:=by ac_rfl
theorem zAp:nf 0=0:=by decide +kernel
theorem zCs:nf 1=4607182418800017408:=by decide +kernel
theorem zEn:nf 1000=4652007308841189376:=by decide +kernel
theorem zRj {c m:Nat} {i:Int} (hc:c<18446744073709551616) (h:double.read c = .number false m i) (hm:4503599627370496≤m):c=double.nearest false m i:=by
  have hr:=zAT h
  have e1:double.signWeight=9223372036854775808:=by decide
  have e2:double.binade=4503599627370496:=by decide
  have e3:double.infRung=2047*4503599627370496:=by decide
  have e4:double.leastPlace = -1074:=by decide
  unfold Format.read at h
  rw [e1,e2,e3,e4] at h
  dsimp only at h
  split at h
  · injection h with _ h2 _; omega
  · rename_i hg
    split at h
    · rename_i hlt
      injection h with h1 h2 h3
      have hneg:¬ (c / 9223372036854775808 % 2=1):=by simpa using h1
      have hc2:c % 9223372036854775808=c:=by omega
      rw [hc2] at h2 h3 hg hlt
      rw [zCD false m i m (i+1074).toNat (by omega) rfl hm (by omega) (by omega)]
      unfold Format.word
      simp only [Bool.false_eq_true,if_false]
      omega
    · split at h <;> cases h
theorem zW7 {c n:Nat} (hc:c<18446744073709551616) (h0:0<n) (hn:n<9007199254740992) (h:FloatKind.f64.format.order c (nf n)=some .eq):c=nf n:=by
  obtain ⟨m,i,h1,h2,h3⟩:=zBf n hn
  have h':(double.read c).order (double.read (nf n))=some .eq:=h
  rw [h1] at h'
  cases hr:double.read c with
  | nan s t=>rw [hr] at h'; cases h'
  | infinity s=>rw [hr] at h'; cases s <;> simp [Datum.order] at h'
  | number s q j =>
    rw [hr] at h'
    obtain ⟨g1,g2,g3⟩:=zAT hr
    rw [zCC _ _ _ _ _ _ g1 h2,h3] at h'
    have hv:sv s q j=(n:Int)*2^1074:=by simpa using h'
    have hpos:(0:Int)<(n:Int)*2^1074:=Int.mul_pos (by omega) zCM
    have hs:s=false:=by
      cases s with
      | false=>rfl
      | true =>
        exfalso
        unfold sv at hv
        rw [zAn] at hv
        have p1:(0:Int)≤(q:Int)*2^(j+1074).toNat:=Int.mul_nonneg (by omega) (Int.le_of_lt (zBN _))
        simp at hv
        omega
    subst hs
    rw [zCS] at hv
    have e:q*2^(j+1074).toNat=n*2^1074:=by
      have:((q*2^(j+1074).toNat:Nat):Int)=((n*2^1074:Nat):Int):=by rw [hv,Int.natCast_mul,Int.natCast_pow]; rfl
      exact Int.ofNat.inj this
    have hq:4503599627370496≤q:=by
      by_cases hq:4503599627370496≤q
      · exact hq
      · exfalso
        have e1:double.signWeight=9223372036854775808:=by decide
        have e2:double.binade=4503599627370496:=by decide
        have e3:double.infRung=2047*4503599627370496:=by decide
        have e4:double.leastPlace = -1074:=by decide
        have hj:j = -1074:=by
          unfold Format.read at hr
          rw [e1,e2,e3,e4] at hr
          dsimp only at hr
          split at hr
          · injection hr with _ _ h3; exact h3.symm
          · split at hr
            · injection hr with _ h2 _; omega
            · split at hr <;> cases hr
        subst hj
        have q3:1*2^1074≤n*2^1074:=Nat.mul_le_mul_right _ h0
        have q4:(4503599627370496:Nat)<1*2^1074:=by decide +kernel
        simp at e
        omega
    rw [zRj hc hr hq]
    exact zFr q j n g1 e hn
end Go.Proofs.YtllaekopaglolaaGreat
end
/-
  spec.Known,spec.Total,spec.Key: what they hand back. (The part that speaks of no program.)
-/
section
namespace Go.Proofs.YtllaekopaglolaaGreat
open Go.RowKit
def fb (xs:List (Int × Nat)):List (Int × Nat):=xs.map fun p=>(p.1,nf p.2)
theorem zBi (xs:List (Int × Nat)):(fb xs).length=xs.length:=by simp [fb]
theorem zSo (xs ys:List (Int × Nat)):fb (xs++ys)=fb xs++fb ys:=by simp [fb]
theorem zSn (xs:List (Int × Nat)) (k:Nat) (h:k<(fb xs).length):(fb xs)[k]=(xs[k]'(by simpa [fb] using h) |>.1,nf (xs[k]'(by simpa [fb] using h)).2):=by simp [fb]
def tot:List (Int × Nat)→Nat
  | []=>0
  | p :: t=>p.2+tot t
theorem zBB (xs ys:List (Int × Nat)):tot (xs++ys)=tot xs+tot ys:=by
  induction xs with
  | nil=>simp [tot]
  | cons p t ih=>simp [tot,ih]; omega
theorem zNj (xs:List (Int × Nat)) (k:Nat):tot (xs.take k)≤tot xs:=by
  have:=zBB (xs.take k) (xs.drop k)
  rw [List.take_append_drop] at this
  omega
theorem zGa (xs:List (Int × Nat)) (k:Nat) (h:k<xs.length):tot (xs.take (k+1))=tot (xs.take k)+xs[k].2:=by
  rw [List.take_succ_eq_append_getElem h,zBB]; simp [tot]
def zBg (kind most:Int):Bool:=(decide (0≤kind)&&decide (kind≤2))||(((kind == 3)||(kind == 4))&&decide (1≤most)&&decide (most≤500))
def fgt2 (x y:Nat):Bool:=FloatKind.f64.format.order x y == some .gt
def keyF (r:Nat):Nat→List (Int × Nat)→Int
  | _,[]=>0
  | acc,p :: t=>if fgt2 (nf (acc+p.2)) r||t.isEmpty then p.1 else keyF r (acc+p.2) t
end Go.Proofs.YtllaekopaglolaaGreat
end
/-
  A dense store in memory: its five fields (behind them perhaps more),its row of counts; plainly.
-/
section
namespace Go.Proofs.YtllaekopaglolaaGreat
open Go.RowKit
def DS (w:World) (p:Nat) (rest:List Value) (T:TypeId) (b c o m x:Value):Prop:=w.heap[p]?=some (.cells (b :: c :: o :: m :: x :: rest).toArray T (0,0))
section
variable {w w':World} {p:Nat} {rest:List Value} {T:TypeId} {b c o m x:Value}
theorem DS.cells (h:DS w p rest T b c o m x):w.cell? ⟨p,0,none⟩=some b∧w.cell? ⟨p,1,none⟩=some c∧w.cell? ⟨p,2,none⟩=some o∧w.cell? ⟨p,3,none⟩=some m∧w.cell? ⟨p,4,none⟩=some x :=
  ⟨cell_of_row _ _ 0 _ _ _ h,cell_of_row _ _ 1 _ _ _ h,cell_of_row _ _ 2 _ _ _ h,cell_of_row _ _ 3 _ _ _ h,cell_of_row _ _ 4 _ _ _ h⟩
theorem DS.free (h:DS w p rest T b c o m x) (i:Nat):w.frozen? ⟨p,i,none⟩=false:=frozen_of_row w p i _ _ h
theorem DS.lt (h:DS w p rest T b c o m x):p<w.heap.size:=lt_of_block h
theorem DS.fr {S:Nat→Prop} (h:DS w p rest T b c o m x) (hf:Fr S w w') (hp:¬ S p):DS w' p rest T b c o m x:=hf.heap h hp
theorem DS.drew (h:DS w p rest T b c o m x):DS w.drew p rest T b c o m x:=h
theorem DS.drewN (h:DS w p rest T b c o m x) (n:Nat):DS (w.drewN n) p rest T b c o m x:=h
theorem DS.set0 (h:DS w p rest T b c o m x) (v:Value):DS (w.setCell ⟨p,0,none⟩ v) p rest T v c o m x:=(heap_setCell_same w p 0 _ T v h).trans (by rw [List.setIfInBounds_toArray]; rfl)
theorem DS.set1 (h:DS w p rest T b c o m x) (v:Value):DS (w.setCell ⟨p,1,none⟩ v) p rest T b v o m x:=(heap_setCell_same w p 1 _ T v h).trans (by rw [List.setIfInBounds_toArray]; rfl)
theorem DS.set2 (h:DS w p rest T b c o m x) (v:Value):DS (w.setCell ⟨p,2,none⟩ v) p rest T b c v m x:=(heap_setCell_same w p 2 _ T v h).trans (by rw [List.setIfInBounds_toArray]; rfl)
theorem DS.set3 (h:DS w p rest T b c o m x) (v:Value):DS (w.setCell ⟨p,3,none⟩ v) p rest T b c o v x:=(heap_setCell_same w p 3 _ T v h).trans (by rw [List.setIfInBounds_toArray]; rfl)
theorem DS.set4 (h:DS w p rest T b c o m x) (v:Value):DS (w.setCell ⟨p,4,none⟩ v) p rest T b c o m v:=(heap_setCell_same w p 4 _ T v h).trans (by rw [List.setIfInBounds_toArray]; rfl)
end
def row (a:Int→Nat) (L:Nat):List Value:=(List.range L).map fun (j:Nat)=>Value.float .f64 (nf (a (j:Int)))
theorem zAc (a:Int→Nat) (L:Nat):(row a L).length=L:=by simp [row]
theorem zDE (a:Int→Nat) (L j:Nat) (h:j<L):(row a L)[j]?=some (.float .f64 (nf (a (j:Int)))):=by
  unfold row
  rw [List.getElem?_map,List.getElem?_range h]; rfl
theorem zVh {a b:Int→Nat} {L:Nat} (h:∀ j:Nat,j<L→a (j:Int)=b (j:Int)):row a L=row b L:=by
  unfold row
  refine List.map_congr_left fun j hj=>?_
  rw [h j (List.mem_range.1 hj)]
theorem zVg (a:Int→Nat) (L j v:Nat) (_h:j<L):(row a L).set j (.float .f64 (nf v))=row (fun i=>if i=(j:Int) then v else a i) L:=by
  apply List.ext_getElem?
  intro i
  rw [List.getElem?_set]
  by_cases hi:i<L
  · rw [zDE _ _ _ hi]
    by_cases hij:j=i
    · subst hij; rw [if_pos rfl,if_pos (by rw [zAc]; exact hi),zDE _ _ _ hi,if_pos rfl]
    · rw [if_neg hij,zDE _ _ _ hi,if_neg (by omega)]
  · rw [List.getElem?_eq_none (by rw [zAc]; omega)]
    by_cases hij:j=i
    · subst hij; rw [if_pos rfl,if_neg (by rw [zAc]; exact hi),List.getElem?_eq_none (by rw [zAc]; omega)]
    · rw [if_neg hij,List.getElem?_eq_none (by rw [zAc]; omega)]
def Row (w:World) (g L cp:Nat) (a:Int→Nat):Prop:=w.ownsRow 0 29 1 (.slice (some ⟨g,0,none⟩) L cp) L (row a L)
section
variable {w w':World} {g L cp:Nat} {a b:Int→Nat}
theorem Row.cell (h:Row w g L cp a) (j:Nat) (hj:j<L):w.cell? ⟨g,j,none⟩=some (.float .f64 (nf (a (j:Int)))):=by
  have h:=World.ownsRow.cells h (g:=g) rfl j _ (zDE a L j hj)
  have hadd:(⟨g,0,none⟩:Addr).add j=⟨g,j,none⟩:=by unfold Addr.add; split <;> simp_all
  rwa [hadd] at h
theorem Row.block (h:Row w g L cp a):∃ cur,w.heap[g]?=some (.cells cur 29 (0,0))∧L≤cp∧cp≤maxLen∧cur.size=cp∧cur.toList.take L=row a L:=by
  rcases h.2 with ⟨h2,_⟩ | ⟨g',cap',cur,hv,_,hg,hn,hm,hs,ht⟩
  · cases h2
  · cases hv
    rw [Nat.mul_one] at ht
    exact ⟨cur,hg,hn,hm,by simpa using hs,ht⟩
theorem Row.free (h:Row w g L cp a) (j:Nat):w.frozen? ⟨g,j,none⟩=false:=by
  obtain ⟨cur,hg,_⟩:=h.block
  exact frozen_of_row w g j cur _ hg
theorem Row.le (h:Row w g L cp a):L≤cp:=by obtain ⟨_,_,h,_⟩:=h.block; exact h
theorem Row.lt (h:Row w g L cp a):g<w.heap.size:=by obtain ⟨_,h,_⟩:=h.block; exact lt_of_block h
theorem Row.fr {S:Nat→Prop} (h:Row w g L cp a) (hf:Fr S w w') (hg:¬ S g):Row w' g L cp a:=hf.owns h (fun k hk=>by cases hk; exact hg)
theorem Row.drew (h:Row w g L cp a):Row w.drew g L cp a:=h
theorem Row.drewN (h:Row w g L cp a) (n:Nat):Row (w.drewN n) g L cp a:=h
theorem Row.ext (h:Row w g L cp a) (hab:∀ j:Nat,j<L→a (j:Int)=b (j:Int)):Row w g L cp b:=by
  unfold Row at *
  rwa [zVh hab] at h
theorem Row.other (h:Row w g L cp a) {p:Addr} (hp:p.block≠g) (v:Value):Row (w.setCell p v) g L cp a:=ownsRow_setCell_other h (fun e=>by cases e; exact hp rfl) v
theorem Row.set (h:Row w g L cp a) (j v:Nat) (hj:j<L):Row (w.setCell ⟨g,j,none⟩ (.float .f64 (nf v))) g L cp (fun i=>if i=(j:Int) then v else a i):=by
  obtain ⟨h1,h2⟩:=h
  rcases h2 with ⟨h2,_⟩ | ⟨g',cap',cur,hv,hb,hg,hn,hm,hs,ht⟩
  · cases h2
  · cases hv
    refine ⟨by rw [zAc]; omega,.inr ⟨g,cp,cur.setIfInBounds j (.float .f64 (nf v)),rfl,hb,heap_setCell_same w g j cur _ _ hg,hn,hm,by simpa using hs,?_⟩⟩
    rw [Array.toList_setIfInBounds,List.take_set,ht,zVg a L j v hj]
end
theorem DS.row {w:World} {p:Nat} {rest:List Value} {T:TypeId} {b c o m x:Value} (h:DS w p rest T b c o m x) {g:Nat} (hpg:p≠g) (i:Nat) (v:Value):DS (w.setCell ⟨g,i,none⟩ v) p rest T b c o m x :=
  (Below.heap_setCell _ _ _ _ hpg).trans h
end Go.Proofs.YtllaekopaglolaaGreat
end
/-
  append of n noughts to a row of counts ('append(bins,make([]float64,n)...)').
-/
section
namespace Go.Proofs.YtllaekopaglolaaGreat
open Go.RowKit
section
variable {P:Program} (w:World)
theorem zCe (z:Value) (n:Nat):Builtin.zeroCells #[z] n=(List.replicate n z).toArray:=by
  apply Array.ext
  · simp [Builtin.zeroCells]
  · intro i h1 h2
    simp [Builtin.zeroCells,Nat.mod_one]
theorem zFk (t tI ty e:TypeId) (i:TypeInfo) (z:Value) (ht:P.underlying t=some (.slice e)) (hI:P.underlying tI=some (.int .i64)) (hi:P.info? e=some i) (hz:i.zero=some z) (hs:i.size=1) (hb:i.bytes≤16) (hzc:z.cells = #[z]) (hz1:z.oneCell'=true)
    (g sLen sCap n:Nat) (hn0:0<n) (hn:n<10000000) (cur:Array Value) (hg:w.heap[g]?=some (.cells cur e (0,0))) (hroom:sLen+n≤sCap) (hfit:sLen+n≤cur.size) :
    (Builtin.append_ #[t,tI] ty #[.slice (some ⟨g,0,none⟩) sLen sCap,.int .i64 n]).run P w =
      .ok (.slice (some ⟨g,0,none⟩) (sLen+n) sCap) (w.setRow g (cur.toList.take sLen++List.replicate n z++cur.toList.drop (sLen+n)).toArray):=by
  have hst:=run_storeCells_at P g sLen e (List.replicate n z) 0 cur w hg (by simp; omega) (by intro u hu; rw [List.eq_of_mem_replicate hu]; exact hz1)
  simp only [Nat.add_zero,List.length_replicate] at hst
  have hw:IntKind.i64.wrap (n:Int)=n:=by rw [IntKind.wrap_i64]; omega
  have h1:¬ ((n:Int)<0):=by omega
  have h2:¬ (281474976710656<(n:Int)*(i.bytes:Int)):=by
    have:(n:Int)*(i.bytes:Int)≤10000000*16:=Int.mul_le_mul (by omega) (by omega) (by omega) (by omega)
    omega
  have h3:¬ n=0:=by omega
  simp [Builtin.append_,run_underlying ht,run_underlying hI,sizeOf,typeInfo,zeroValue,hi,hz,hs,asInt,asIntOf,hw,h1,h2,h3,hroom,hzc,zCe,Addr.add_lit,hst]
theorem zDM (t tI ty e:TypeId) (i:TypeInfo) (z:Value) (ht:P.underlying t=some (.slice e)) (hI:P.underlying tI=some (.int .i64)) (hi:P.info? e=some i) (hz:i.zero=some z) (hs:i.size=1) (hb:i.bytes≤16) (hzc:z.cells = #[z])
    (ao:Option Addr) (sLen sCap n:Nat) (olds:List Value) (hlo:olds.length=sLen) (holds:(Builtin.firstCells 1 sLen (.slice ao sLen sCap)).run P w.drew = .ok olds.toArray w.drew) (hn0:0<n) (hn:n<10000000) (hsl:sLen<10000000)
    (hg:sCap<sLen+n) :
    (Builtin.append_ #[t,tI] ty #[.slice ao sLen sCap,.int .i64 n]).run P w =
      .ok (.slice (some ⟨w.heap.size,0,none⟩) (sLen+n) (grownCap w (sLen+n) sCap e))
        (w.drew.alloc (.cells (olds.toArray++(List.replicate n z).toArray++Builtin.zeroCells #[z] (grownCap w (sLen+n) sCap e - (sLen+n))) e)):=by
  have hn':¬ (sLen+n≤sCap):=by omega
  have hw:IntKind.i64.wrap (n:Int)=n:=by rw [IntKind.wrap_i64]; omega
  have h1:¬ ((n:Int)<0):=by omega
  have h2:¬ (281474976710656<(n:Int)*(i.bytes:Int)):=by
    have:(n:Int)*(i.bytes:Int)≤10000000*16:=Int.mul_le_mul (by omega) (by omega) (by omega) (by omega)
    omega
  have h3:¬ n=0:=by omega
  have h63':¬ (9223372036854775807<((sLen:Int)+(n:Int))):=by omega
  have h48':¬ (281474976710656<Builtin.nextslicecap (sLen+n) sCap*i.bytes):=by
    have:=growslice_fits (need:=sLen+n) (old:=sCap) (bytes:=i.bytes) (by omega) (by
      have:(sLen+n)*i.bytes≤20000000*16:=Nat.mul_le_mul (by omega) hb
      omega)
    omega
  have hz2:=zCe z n
  simp [Builtin.append_,run_underlying ht,run_underlying hI,sizeOf,typeInfo,zeroValue,hi,hz,hs,asInt,asIntOf,hw,h1,h2,h3,hn',h63',h48',hzc,hz2,Question.forced,holds,newRow,grownCap]
end
theorem zF9 (n:Nat):List.replicate n (Value.float .f64 0)=row (fun _=>0) n:=by
  unfold row
  apply List.ext_getElem?
  intro i
  by_cases h:i<n
  · rw [List.getElem?_replicate,if_pos h,List.getElem?_map,List.getElem?_range h,Option.map_some,zAp]
  · rw [List.getElem?_replicate,if_neg h,List.getElem?_map,List.getElem?_eq_none (by simp; omega)]; rfl
theorem zH4 (a:Int→Nat) (L n:Nat):row a L++row (fun _=>0) n=row (fun j=>if j<(L:Int) then a j else 0) (L+n):=by
  apply List.ext_getElem?
  intro i
  by_cases h1:i<L
  · rw [List.getElem?_append_left (by rw [zAc]; exact h1),zDE _ _ _ h1,zDE _ _ _ (by omega),if_pos (by omega)]
  · rw [List.getElem?_append_right (by rw [zAc]; omega),zAc]
    by_cases h2:i<L+n
    · rw [zDE _ _ _ (by omega),zDE _ _ _ h2,if_neg (by omega)]
    · rw [List.getElem?_eq_none (by rw [zAc]; omega),List.getElem?_eq_none (by rw [zAc]; omega)]
def zOp (w:World) (v:Value) (L:Nat) (a:Int→Nat):Prop:=(v = .slice none 0 0∧L=0)∨∃ g cp,v = .slice (some ⟨g,0,none⟩) L cp∧Row w g L cp a
def zNf (w:World) (v:Value) (L n:Nat) (a:Int→Nat) (v':Value) (w':World):Prop :=
  ∃ g' cp',v' = .slice (some ⟨g',0,none⟩) (L+n) cp'∧Row w' g' (L+n) cp' (fun j=>if j<(L:Int) then a j else 0)∧w.grownBy w' v.ownBlock∧(v.ownBlock=some g'∨g'=w.heap.size)
theorem zE8 {P:Program} (w:World) (t tI ty:TypeId) (ht:P.underlying t=some (.slice 29)) (hI:P.underlying tI=some (.int .i64))
    (hinfo:(P.info? 29).map (fun i=>(i.zero,i.size,i.bytes))=some (some (.float .f64 0),1,8))
    (v:Value) (L n:Nat) (a:Int→Nat) (h:zOp w v L a) (hn0:0<n) (hn:n<10000000) (hL:L<10000000) :
    ∃ v' w',(Builtin.append_ #[t,tI] ty #[v,.int .i64 n]).run P w = .ok v' w'∧zNf w v L n a v' w':=by
  obtain ⟨i0,hi,hz0,hz1,hz2⟩:=info_parts hinfo
  have grown:∀ (old:Nat),old<L+n→∀ (row':Option Nat) (b:Int→Nat),
      Row (w.drew.alloc (.cells ((row b L).toArray++(List.replicate n (Value.float .f64 0)).toArray++Builtin.zeroCells #[.float .f64 0] (grownCap w (L+n) old 29 - (L+n))) 29)) w.heap.size (L+n) (grownCap w (L+n) old 29) (fun j=>if j<(L:Int) then b j else 0) ∧
      w.grownBy (w.drew.alloc (.cells ((row b L).toArray++(List.replicate n (Value.float .f64 0)).toArray++Builtin.zeroCells #[.float .f64 0] (grownCap w (L+n) old 29 - (L+n))) 29)) row':=by
    intro old ho row' b
    have hge:=grownCap_ge w (L+n) old 29
    have hcm:grownCap w (L+n) old 29≤maxLen:=grownCap_le_maxLen w (L+n) old 29 (by unfold maxLen; omega)
    refine ⟨⟨by rw [zAc]; omega,.inr ⟨w.heap.size,_,_,rfl,Nat.zero_le _,heap_alloc_new w.drew _,hge,hcm,?_,?_⟩⟩,⟨rfl,rfl,rfl,by simp,fun k hk _=>Below.heap_alloc w.drew _ k hk⟩⟩
    · simp only [Array.size_append,List.size_toArray,size_zeroCells,zAc,List.length_replicate]
      simp; omega
    · simp only [Array.toList_append,List.append_assoc]
      rw [← List.append_assoc,zF9,zH4,Nat.mul_one]
      have:L+n=(row (fun j=>if j<(L:Int) then b j else 0) (L+n)).length:=by rw [zAc]
      conv=>lhs; rw [this]
      rw [zAc]
      have h2:(row (fun j=>if j<(L:Int) then b j else 0) (L+n)).length=L+n:=zAc _ _
      conv=>lhs; arg 1; rw [← h2]
      exact List.take_left
  rcases h with ⟨rfl,rfl⟩ | ⟨g,cp,rfl,hr⟩
  · have hr:=zDM (P:=P) w t tI ty 29 i0 (.float .f64 0) ht hI hi hz0 hz1 (by omega) rfl none 0 0 n [] rfl (by simp [Builtin.firstCells]) hn0 hn (by omega) (by omega)
    have hgr:=grown 0 (by omega) (Value.ownBlock (.slice none 0 0)) a
    exact ⟨_,_,hr,w.heap.size,_,rfl,hgr.1,hgr.2,.inr rfl⟩
  · obtain ⟨cur,hg,h1,h2,h3,h4⟩:=hr.block
    by_cases hroom:L+n≤cp
    · have hrun:=zFk (P:=P) w t tI ty 29 i0 (.float .f64 0) ht hI hi hz0 hz1 (by omega) rfl rfl g L cp n hn0 hn cur hg hroom (by omega)
      refine ⟨_,_,hrun,g,cp,rfl,⟨by rw [zAc]; omega,.inr ⟨g,cp,_,rfl,Nat.zero_le _,setRow_heap w g cur _ _ _ hg,hroom,h2,?_,?_⟩⟩,⟨rfl,rfl,rfl,by simp [World.setRow],fun k _ hk=>setRow_other w g k _ (fun e=>hk (by simp [Value.ownBlock,e]))⟩,.inl rfl⟩
      · simp only [List.size_toArray,List.length_append,List.length_take,List.length_drop,Array.length_toList,List.length_replicate]
        omega
      · rw [h4,zF9,zH4,Nat.mul_one]
        have h5:(row (fun j=>if j<(L:Int) then a j else 0) (L+n)).length=L+n:=zAc _ _
        conv=>lhs; arg 1; rw [← h5]
        exact List.take_left
    · have hlo:(row a L).length=L:=zAc _ _
      have hfo:=run_firstCells_some (P:=P) w.drew 1 L ⟨g,0,none⟩ L cp (row a L) (by rw [zAc]; omega) (World.ownsRow.cells hr (g:=g) rfl)
      have hrun:=zDM (P:=P) w t tI ty 29 i0 (.float .f64 0) ht hI hi hz0 hz1 (by omega) rfl (some ⟨g,0,none⟩) L cp n (row a L) hlo hfo hn0 hn hL (by omega)
      have hgr:=grown cp (by omega) (Value.ownBlock (.slice (some ⟨g,0,none⟩) L cp)) a
      exact ⟨_,_,hrun,w.heap.size,_,rfl,hgr.1,hgr.2,.inr rfl⟩
theorem zBU {P:Program} (w:World) {ops:Array Oper} {rest:List Oper} {o:Oper} {a:Act} {Q:Exit→Act→World→Prop} (hgd:o.guard=none) (s x:Operand) (t tI:TypeId)
    (ho:o.op = .call { callee:=.builtin .append,args:=#[s,x],argTypes:=#[t,tI] }) (ht:P.underlying t=some (.slice 29)) (hI:P.underlying tI=some (.int .i64))
    (hinfo:(P.info? 29).map (fun i=>(i.zero,i.size,i.bytes))=some (some (.float .f64 0),1,8))
    (v:Value) (L n:Nat) (f:Int→Nat) (hs:a.eval s=v) (hx:a.eval x = .int .i64 n) (h:zOp w v L f) (hn0:0<n) (hn:n<10000000) (hL:L<10000000)
    (hk:∀ v' w',zNf w v L n f v' w'→wpList P ops Q rest (a.put o.dst v') w'):wpList P ops Q (o :: rest) a w:=by
  obtain ⟨v',w',hr,h2⟩:=zE8 (P:=P) w t tI o.type ht hI hinfo v L n f h hn0 hn hL
  refine wpList_plain hgd fun K hK=>?_
  unfold Oper.wp execOp
  simp only [ho,resolve,invoke,builtin,Sem.run_bind,Sem.run_pure,Result.andThen_ok,List.map_toArray,List.map_cons,List.map_nil,hs,hx,hr]
  exact hK _ _ (hk v' w' h2)
theorem zF6 {P:Program} (w:World) {o:Oper} {a:Act} {K:Act→World→Prop} {Q:Exit→Act→World→Prop} (s x:Operand) (t tI:TypeId)
    (ho:o.op = .call { callee:=.builtin .append,args:=#[s,x],argTypes:=#[t,tI] }) (ht:P.underlying t=some (.slice 29)) (hI:P.underlying tI=some (.int .i64))
    (hinfo:(P.info? 29).map (fun i=>(i.zero,i.size,i.bytes))=some (some (.float .f64 0),1,8))
    (v:Value) (L n:Nat) (f:Int→Nat) (hs:a.eval s=v) (hx:a.eval x = .int .i64 n) (h:zOp w v L f) (hn0:0<n) (hn:n<10000000) (hL:L<10000000)
    (hk:∀ v' w',zNf w v L n f v' w'→K (a.put o.dst v') w'):o.wp P a w K Q:=by
  obtain ⟨v',w',hr,h2⟩:=zE8 (P:=P) w t tI o.type ht hI hinfo v L n f h hn0 hn hL
  unfold Oper.wp execOp
  simp only [ho,resolve,invoke,builtin,Sem.run_bind,Sem.run_pure,Result.andThen_ok,List.map_toArray,List.map_cons,List.map_nil,hs,hx,hr]
  exact hk v' w' h2
theorem Tryz.infoF64:(Tryz.prog.info? 29).map (fun i=>(i.zero,i.size,i.bytes))=some (some (.float .f64 0),1,8):=by kernel_rfl
end Go.Proofs.YtllaekopaglolaaGreat
end
