/-
  Ranks as floats,plainly.
-/
import Derived.Test.YtllaekopaglolaaGreatHBH
import Derived.Test.YtllaekopaglolaaGreatHBI
import Derived.Test.YtllaekopaglolaaGreatHAK
section
namespace Go.Proofs.YtllaekopaglolaaGreat
open Go.RowKit
open Ieee
set_option exponentiation.threshold 5000
theorem zSi {x:Nat} {a b:Int} (h:FV x a) (h2:FV x b):a=b:=by
  obtain ⟨-,s,m,i,r,e⟩:=h
  obtain ⟨-,s',m',i',r',e'⟩:=h2
  rw [r] at r'
  cases r'
  rw [← e,← e']
theorem zUB {z n:Nat} (h:FV z ((n:Int)*2^1074)) (h0:0<n) (hn:n<9007199254740992):z=nf n :=
  zW7 h.1 h0 hn (by rw [zDh h (zFq n hn),Int.compare_eq_eq.2 rfl])
theorem zSG {n:Nat} (h:0<n) (hn:n<1000000000):fsub (nf n) 4607182418800017408=some (nf (n - 1)):=by
  by_cases h1:n=1
  · subst h1
    rw [zCs,Nat.sub_self,zAp]
    decide +kernel
  · obtain ⟨k,rfl⟩:∃ k,n=k+1:=⟨n - 1,by omega⟩
    rw [← zCs,Nat.add_sub_cancel]
    have e:(((k+1:Nat):Int)*2^1074 - ((1:Nat):Int)*2^1074)=(k:Int)*2^1074:=by rw [← Int.sub_mul]; congr 1; omega
    obtain ⟨z,hz,fz⟩:=zDG (zFq (k+1) (by omega)) (zFq 1 (by omega)) (by
      rw [e]
      refine Nat.lt_trans (zAg (k:=1127) ?_ (by omega)) (by omega)
      rw [Int.natAbs_mul,Int.natAbs_natCast,show ((2:Int)^1074).natAbs=2^1074 from by rw [Int.natAbs_pow]; rfl,show (2:Nat)^1127=2^53*2^1074 from by rw [← Nat.pow_add]]
      exact Nat.mul_lt_mul_of_pos_right (Nat.lt_of_lt_of_le (show k<1000000000 by omega) (by decide)) (Nat.two_pow_pos _))
    rw [e,zB1 _ _ (by rw [Int.natAbs_natCast]; omega)] at fz
    rw [zUB fz (by omega) (by omega)] at hz
    exact hz
theorem zWj {q:Nat} (hq:q<18446744073709551616) (h:okQ q=true):∃ Q:Nat,FV q (Q:Int)∧Q≤2^1074∧flt q 0=false∧fgt q 4607182418800017408=false:=by
  unfold okQ at h
  obtain ⟨h1,h2⟩:=Bool.and_eq_true_iff.1 h
  have hone:FV 4607182418800017408 (((1:Nat):Int)*2^1074):=by rw [← zCs]; exact zFq 1 (by omega)
  have hfin:∃ a,FV q a:=by
    unfold fge at h1
    unfold fle at h2
    have g1:((double.read q).order (double.read 0) == some .gt||(double.read q).order (double.read 0) == some .eq)=true:=h1
    have g2:((double.read q).order (double.read 4607182418800017408) == some .lt||(double.read q).order (double.read 4607182418800017408) == some .eq)=true:=h2
    have r0:double.read 0 = .number false 0 (-1074):=by decide +kernel
    obtain ⟨-,s1,m1,i1,r1,-⟩:=hone
    rw [r0] at g1
    rw [r1] at g2
    cases hr:double.read q with
    | nan s t=>rw [hr] at g1; simp [Datum.order] at g1
    | infinity s=>rw [hr] at g1 g2; cases s <;> simp [Datum.order] at g1 g2
    | number s m i=>exact ⟨_,hq,s,m,i,hr,rfl⟩
  obtain ⟨a,fa⟩:=hfin
  rw [zOX fa zA0,decide_eq_true_eq] at h1
  rw [zGN fa hone,decide_eq_true_eq] at h2
  obtain ⟨Q,rfl⟩:=Int.eq_ofNat_of_zero_le h1
  refine ⟨Q,fa,?_,?_,?_⟩
  · rw [show ((1:Nat):Int)*2^1074=((2^1074:Nat):Int) from by rw [Int.natCast_pow]; show 1*_=_; rw [Int.one_mul]; rfl] at h2
    exact Int.ofNat_le.1 h2
  · rw [zBD fa zA0]; simp
  · rw [zBa fa hone,decide_eq_false_iff_not]; omega
theorem zV8 {x R:Nat} (h:FV x (R:Int)):∃ m e,R=m*2^e∧m<9007199254740992:=by
  obtain ⟨s,r,hr,hx,ha⟩:=zGg h
  have hR:R=zAs r:=by
    cases s
    · simp at ha; omega
    · simp at ha; omega
  unfold zAs at hR
  split at hR
  · exact ⟨r,0,by rw [hR,Nat.pow_zero,Nat.mul_one],by omega⟩
  · exact ⟨_,_,hR,by omega⟩
theorem zVk {q n:Nat} {Q:Nat} (hq:FV q (Q:Int)) (hQ:Q≤2^1074) (hn:n<1000000000):∃ r R:Nat,fmul q (nf n)=some r∧FV r (R:Int)∧R≤n*2^1074:=by
  have fn:=zFq n (by omega)
  have f1:=zFq 1 (by omega)
  have en:((n:Int)*2^1074)=((n*2^1074:Nat):Int):=by rw [Int.natCast_mul,Int.natCast_pow]; rfl
  have e1:(((1:Nat):Int)*2^1074)=((2^1074:Nat):Int):=by rw [Int.natCast_pow]; show 1*_=_; rw [Int.one_mul]; rfl
  rw [en] at fn
  rw [e1] at f1
  have hb:∀ Z:Nat,Z≤2^1074→(((Z:Nat):Int)*((n*2^1074:Nat):Int)).natAbs.log2<3164:=fun Z hZ=>by
    rw [← Int.natCast_mul,Int.natAbs_natCast]
    refine Nat.lt_trans (zAg (k:=2202) ?_ (by decide)) (by decide)
    have h1:n*2^1074<2^53*2^1074:=Nat.mul_lt_mul_of_pos_right (Nat.lt_of_lt_of_le hn (by decide)) (Nat.two_pow_pos _)
    have h2:=Nat.mul_le_mul hZ (Nat.le_of_lt h1)
    rw [← Nat.pow_add,← Nat.pow_add] at h2
    exact Nat.lt_of_le_of_lt h2 (Nat.pow_lt_pow_right (by omega) (by omega))
  obtain ⟨r,hr,fr⟩:=zCQ hq fn (hb Q hQ)
  by_cases hn0:n=0
  · rw [hn0,Nat.zero_mul,Int.natCast_zero,Int.mul_zero,zE9] at fr
    exact ⟨r,0,hr,fr,Nat.zero_le _⟩
  obtain ⟨z,hz,fz⟩:=zCQ f1 fn (hb _ (Nat.le_refl _))
  have hm:=zWk 1 n (by decide) (Nat.pos_of_ne_zero hn0) (by rw [Nat.one_mul]; exact Nat.lt_trans hn (by decide))
  have hz2:z=nf n:=by
    have:some z=some (nf (1*n)):=hz.symm.trans hm
    rw [Nat.one_mul] at this
    exact Option.some.inj this
  rw [hz2] at fz
  have hv:=zSi fz fn
  rw [← Int.natCast_mul,zAj] at fr hv
  refine ⟨r,_,hr,fr,?_⟩
  exact Nat.le_trans (zGy 1074 (Nat.mul_le_mul_right (n*2^1074) hQ)) (Nat.le_of_eq (Int.ofNat_inj.1 hv))
theorem zT8 (m e:Nat) (h:1074≤e):m*2^e=m*2^(e - 1074)*2^1074:=by rw [Nat.mul_assoc,← Nat.pow_add,Nat.sub_add_cancel h]
theorem zT7 (b e:Nat) (h:e≤1074):b*2^1074=b*2^(1074 - e)*2^e:=by rw [Nat.mul_assoc,← Nat.pow_add,Nat.sub_add_cancel h]
theorem zJL {r R b:Nat} (fr:FV r (R:Int)) (hb:b<1000000000) (hle:b*2^1074≤R) (hR:R≤1000000000*2^1074):∃ r',fsub r (nf b)=some r'∧FV r' ((R - b*2^1074:Nat):Int):=by
  obtain ⟨m,e,he,hm⟩:=zV8 fr
  have fb:=zFq b (Nat.lt_trans hb (by decide))
  have eb:((b:Int)*2^1074)=((b*2^1074:Nat):Int):=by rw [Int.natCast_mul,Int.natCast_pow]; rfl
  rw [eb] at fb
  have ed:((R:Int) - ((b*2^1074:Nat):Int))=((R - b*2^1074:Nat):Int):=(Int.ofNat_sub hle).symm
  have hform:∃ k d,R - b*2^1074=k*2^d∧k<9007199254740992:=by
    by_cases h:e≤1074
    · refine ⟨m - b*2^(1074 - e),e,?_,Nat.lt_of_le_of_lt (Nat.sub_le _ _) hm⟩
      rw [he,Nat.sub_mul,zT7 b e h]
    · have h9:=zT8 m e (Nat.le_of_lt (Nat.not_le.1 h))
      refine ⟨m*2^(e - 1074) - b,1074,?_,?_⟩
      · rw [he,h9,Nat.sub_mul]
      · rw [he,h9] at hR
        have:=Nat.le_of_mul_le_mul_right hR (Nat.two_pow_pos _)
        exact Nat.lt_of_le_of_lt (Nat.sub_le _ _) (Nat.lt_of_le_of_lt this (by decide))
  obtain ⟨z,hz,fz⟩:=zDG fr fb (by
    rw [ed,Int.natAbs_natCast]
    refine Nat.lt_trans (zAg (k:=1127) ?_ (by omega)) (by omega)
    refine Nat.lt_of_le_of_lt (Nat.sub_le _ _) (Nat.lt_of_le_of_lt hR ?_)
    rw [show (2:Nat)^1127=2^53*2^1074 from by rw [← Nat.pow_add]]
    exact Nat.mul_lt_mul_of_pos_right (by decide) (Nat.two_pow_pos _))
  rw [ed] at fz
  obtain ⟨k,d,hk,hk2⟩:=hform
  refine ⟨z,hz,?_⟩
  rw [hk,Int.natCast_mul,Int.natCast_pow,show ((2:Nat):Int)=2 from rfl,zB1 _ _ (by rw [Int.natAbs_natCast]; exact hk2)] at fz
  rw [hk,Int.natCast_mul,Int.natCast_pow]
  exact fz
end Go.Proofs.YtllaekopaglolaaGreat
end
/-
  append([]Item{x},turned...),and spec.Quantile.
-/
section
namespace Go.Proofs.YtllaekopaglolaaGreat
open Go.RowKit
open Ieee
set_option exponentiation.threshold 5000
theorem zGk {w:World} {g off:Nat} {ps:List (Nat × Nat)} (h:∀ i,(h:i<ps.length)→w.cell? ⟨g,off+i*2,none⟩=some (.float .f64 ps[i].1)∧w.cell? ⟨g,off+i*2+1,none⟩=some (.float .f64 ps[i].2)) :
    ∀ j v,(qc ps)[j]?=some v→w.cell? ((⟨g,off,none⟩:Addr).add j)=some v:=by
  intro j v hj
  have hadd:(⟨g,off,none⟩:Addr).add j=⟨g,off+j,none⟩:=by unfold Addr.add; split <;> simp_all
  have hl:j<(qc ps).length:=(List.getElem?_eq_some_iff.1 hj).1
  have hl2:=hl
  rw [zBC] at hl2
  rw [hadd]
  obtain ⟨i,hi⟩:∃ i,i=j / 2:=⟨_,rfl⟩
  have hip:i<ps.length:=by omega
  obtain ⟨h0,h1⟩:=h i hip
  by_cases hj2:j=i*2
  · subst hj2
    rw [h0]
    rw [zId ps i hip] at hj
    exact hj
  · have hj3:j=i*2+1:=by omega
    subst hj3
    rw [show off+(i*2+1)=off+i*2+1 from by omega,h1]
    rw [zIc ps i hip] at hj
    exact hj
theorem zEy (w:World) (B:Nat) (hB:w.heap.size=B) (x b:Nat) (T:List (Nat × Nat)) {ops:Array Oper} {rest:List Oper} {o:Oper} {a:Act} {Q:Exit→Act→World→Prop} (hgd:o.guard=none) (s y:Operand)
    (ho:o.op = .call { callee:=.builtin .append,args:=#[s,y],argTypes:=#[24,24] })
    (ar:Option Addr) (n c:Nat) (hn:n=T.length) (hs:a.eval s = .slice (some ⟨B,0,none⟩) 1 1) (hy:a.eval y = .slice ar n c) (hl:LieR w ar T) (hT:T.length<1000000000)
    (h:∀ ao cp w1,w1.ownsRow 0 38 2 (.slice ao (n+1) cp) (n+1) (qc ((x,b) :: T))→Below w.heap.size w w1→(∀ k,(Value.slice ao (n+1) cp).ownBlock=some k→B≤k) →
      wpList Tryz.prog ops Q rest (a.put o.dst (.slice ao (n+1) cp)) w1):wpList Tryz.prog ops Q (o :: rest) a (w.alloc (.cells #[.float .f64 x,.float .f64 b] 38)):=by
  subst hB hn
  obtain ⟨i0,hi,hz0,hz1,hz2⟩:=info_parts Tryz.infoSI
  have hb0:Below w.heap.size w (w.alloc (.cells #[.float .f64 x,.float .f64 b] 38)):=(Below.refl _ w).alloc (Nat.le_refl _) _
  have hr:=heap_alloc_new w (.cells #[.float .f64 x,.float .f64 b] 38)
  have how:(w.alloc (.cells #[.float .f64 x,.float .f64 b] 38)).ownsRow 0 38 2 (.slice (some ⟨w.heap.size,0,none⟩) 1 1) 1 (qc [(x,b)]) :=
    ⟨rfl,.inr ⟨w.heap.size,1,_,rfl,Nat.zero_le _,hr,Nat.le_refl _,by decide,rfl,rfl⟩⟩
  by_cases h0:T=[]
  · subst h0
    have hrun:=zB9 (P:=Tryz.prog) 24 o.type 38 Tryz.underlying24 i0 hi (some ⟨w.heap.size,0,none⟩) 1 1 ar c (w.alloc (.cells #[.float .f64 x,.float .f64 b] 38)) (Nat.le_refl _)
    refine wpList_plain hgd fun K hK'=>?_
    unfold Oper.wp execOp
    simp only [ho,resolve,invoke,builtin,Sem.run_bind,Sem.run_pure,Result.andThen_ok,List.map_toArray,List.map_cons,List.map_nil,hs,hy]
    rw [show (([]:List (Nat × Nat)).length)=0 from rfl,hrun]
    exact hK' _ _ (h (some ⟨w.heap.size,0,none⟩) 1 _ how hb0 (fun k hk=>by cases hk; exact Nat.le_refl _))
  · rcases hl with hl | ⟨g,off,rfl,hc⟩
    · exact absurd hl h0
    have hnews:∀ j u,(qc T)[j]?=some u→(w.alloc (.cells #[.float .f64 x,.float .f64 b] 38)).cell? ((⟨g,off,none⟩:Addr).add j)=some u:=by
      intro j u hj
      have h:=zGk hc j u hj
      rw [World.cell?_of_block (Below.heap_alloc _ _ _ (World.block_lt_of_cell? w _ h))]
      exact h
    refine zAi _ hgd s y 24 ho 38 i0 (.agg #[.float .f64 0,.float .f64 0]) 2 16 Tryz.underlying24 hi hz0 hz1 hz2 rfl (by decide) (.slice (some ⟨w.heap.size,0,none⟩) 1 1) 1 (qc [(x,b)]) hs how ⟨g,off,none⟩ T.length c (qc T) hy (zBC T) hnews (zFC _) (by unfold maxLen; omega) (by omega) ?_
    intro v' w1 hown hgrow hblk
    rw [← zBr,Nat.add_comm 1] at hown
    obtain ⟨ao',n1,cp1,hv1⟩:=zAR hown
    subst hv1
    have hnl:=zAo hown
    subst hnl
    refine h ao' cp1 w1 hown (hb0.grown hgrow hb0.size (fun k hk=>by cases hk; exact Nat.le_refl _)) (fun k hk=>?_)
    rw [hk] at hblk
    rcases hblk with h | h
    · cases h; exact Nat.le_refl _
    · have h9:=Option.some.inj h
      have:k=(w.alloc (.cells #[.float .f64 x,.float .f64 b] 38)).heap.size:=h9
      rw [World.size_alloc] at this; omega
def negs (xs:Items):Items:=xs.filter fun q=>decide (vI q.1<0)
theorem zEo (a b:Items):negs (a++b)=negs a++negs b:=List.filter_append ..
theorem zF7 (xs:Items):totC xs.reverse=totC xs:=by
  induction xs with
  | nil=>rfl
  | cons q t ih=>rw [List.reverse_cons,zBc,ih]; show _+(q.2+0)=q.2+_; omega
theorem zDJ (xs:Items):totC (negs xs)≤totC xs:=by
  induction xs with
  | nil=>exact Nat.le_refl _
  | cons q t ih =>
    unfold negs at *
    rw [List.filter_cons]
    split
    · show q.2+_≤q.2+_; omega
    · show _≤q.2+_; omega
def zWL (xs:Items) (w wr:World) (v u i:Value):Prop :=
  ∃ k ar c,k≤xs.length∧i = .int .i64 (k:Int)∧v = .float .f64 (nf (totC (negs (xs.take k))))∧u = .slice ar (negs (xs.take k)).length c∧OwnQ 38 w wr (.slice ar (negs (xs.take k)).length c) (fi (negs (xs.take k)).reverse)
def zDs (xs:Items) (r r2:Nat):Nat:=if flt r (nf (totC (negs xs)))=true then valF r2 0 (negs xs).reverse else valF r 0 xs
def zRB (v:Nat) (w:World) (e:Ending) (w':World):Prop:=(∃ b:Bool,e = .returned (.tuple #[.float .f64 v,.bool b]))∧Below w.heap.size w w'
set_option maxRecDepth 100000 in
set_option maxHeartbeats 1600000 in
theorem zO7 (ao:Option Addr) (cp q c1 r r1 r2:Nat) (R R2:Int) (xs:Items) (w:World) (hl:LieR w ao (fi xs)) (h0:0<xs.length) (hn:xs.length≤100000) (hx:∀ q∈xs,zAU q) (ht:totC xs<1000000)
   (hc1:fsub (nf (totC xs)) 4607182418800017408=some c1) (hr:fmul q c1=some r) (fr:FV r R) (b1:-1000000≤qv R) (b2:qv R≤1000000) (hr1:fsub (nf (totC (negs xs))) 4607182418800017408=some r1) (hr2:fsub r1 r=some r2) (fr2:FV r2 R2) (d1:-1000000≤qv R2) (d2:qv R2≤1000000)
   (hne:flt r (nf (totC (negs xs)))=true→0<(negs xs).length) :
    Calls Tryz.prog 19 #[.slice ao xs.length cp,.float .f64 q] w fun e w'=>zRB (zDs xs r r2) w e w':=by
  have HC:=fun w hl=>zIO ao cp xs w hl (by omega) (by omega)
  have HF:=fun w hl=>zJv ao cp r R xs w hl h0 (by omega) ht fr b1 b2
  have HT:=fun a c (w:World) (hl:LieR w a (fi (negs xs).reverse)) (hp:0<(negs xs).length)=>by
    have:=zJv a c r2 R2 (negs xs).reverse w hl (by rw [List.length_reverse]; exact hp) (by rw [List.length_reverse]; have:=List.length_filter_le (fun q=>decide (vI q.1<0)) xs; unfold negs; omega) (by rw [zF7]; have:=zDJ xs; omega) fr2 d1 d2
    rw [List.length_reverse] at this
    exact this
  obtain ⟨e1,E1,he1,-⟩:∃ e1 E1,fsub (nf (totC (negs xs))) r=some e1∧FV e1 E1:=by
    obtain ⟨Y,fy,y1,y2⟩:=zGb (totC (negs xs)) (by have:=zDJ xs; omega)
    obtain ⟨e1,E1,h1,h2,-⟩:=zEj fy fr 4000000 (by grind) (by grind) (by grind)
    exact ⟨e1,E1,h1,h2⟩
  obtain ⟨e2,E2,he2,-⟩:∃ e2 E2,fsub r (nf (totC (negs xs)))=some e2∧FV e2 E2:=by
    obtain ⟨Y,fy,y1,y2⟩:=zGb (totC (negs xs)) (by have:=zDJ xs; omega)
    obtain ⟨e1,E1,h1,h2,-⟩:=zEj fr fy 4000000 (by grind) (by grind) (by grind)
    exact ⟨e1,E1,h1,h2⟩
  have q1:=fun w:World=>run_float_arith (P:=Tryz.prog) w .sub 29 .f64 _ _ _ hc1
  have q2:=fun w:World=>run_float_arith (P:=Tryz.prog) w .mul 29 .f64 _ _ _ hr
  have q3:=fun w:World=>run_float_arith (P:=Tryz.prog) w .sub 29 .f64 _ _ _ hr1
  have q4:=fun w:World=>run_float_arith (P:=Tryz.prog) w .sub 29 .f64 _ _ _ hr2
  have q5:=fun w:World=>run_float_arith (P:=Tryz.prog) w .sub 29 .f64 _ _ _ he1
  have q6:=fun w:World=>run_float_arith (P:=Tryz.prog) w .sub 29 .f64 _ _ _ he2
  have HL:=Lib.hid hl
  have HX:=Lib.hid hx
  have HTT:=Lib.hid ht
  have HNE:=Lib.hid hne
  have HHF:=Lib.hid HF
  have HHT:=Lib.hid HT
  have Q3:=Lib.hid (And.intro q3 q4)
  have Q5:=Lib.hid (And.intro q5 q6)
  clear hl hx ht hc1 hr fr b1 b2 hr1 hr2 fr2 d1 d2 he1 he2 hne HF HT q3 q4 q5 q6
  go_enter Tryz.func19,Tryz.ntmps19
  go_wp2_with (go_at_call 18; refine (HC _ HL.out).mono ?_; rintro e wc ⟨rfl,hbc⟩)
  have HBC:=Lib.hid hbc
  have HL2:=Lib.hid (show LieR wc ao (fi xs) from HL.out.later hbc)
  clear hbc HC q1 q2
  go_loopw [7,8,23] (fun v u i wr=>zWL xs wc wr v u i) (fun _ _ i _=>xs.length - (intOf i).toNat)
  case atStart=>exact ⟨0,none,0,by omega,rfl,by rw [List.take_zero,← zAp]; rfl,rfl,OwnQ.nil _ _⟩
  case round =>
    obtain ⟨k,ar,c,hk,rfl,rfl,rfl,hown⟩:=hrel
    by_cases hlt:k<xs.length
    · have hbw:=hown.2
      rcases HL2.out.later hbw with h0' | ⟨g,off,rfl,hcell⟩
      · have:=congrArg List.length h0'; rw [zAK,List.length_nil] at this; omega
      obtain ⟨c0,c1⟩:=hcell k (by rw [zAK]; exact hlt)
      rw [zEg] at c0 c1
      dsimp only at c0 c1
      have hsn:xs.take (k+1)=xs.take k++[xs[k]]:=List.take_succ_eq_append_getElem hlt
      have hng:negs (xs.take (k+1))=negs (xs.take k)++(if vI xs[k].1<0 then [xs[k]] else []):=by
        rw [hsn,zEo]
        congr 1
        unfold negs
        by_cases hv:vI xs[k].1<0
        · simp [hv]
        · simp [hv]
      have hxk:zAU xs[k]:=HX.out _ (List.getElem_mem hlt)
      have hfv:=(zAx hxk.lt hxk.fits).1
      have f0:FV 0 0:=by have:=zFq 0 (by omega); rw [zAp] at this; simpa using this
      have hcmp:=zBD hfv f0
      have hsz:totC (negs (xs.take k))+xs[k].2<1000000:=by
        have:=zCV xs k hlt; have:=zE2 xs (k+1); have:=zDJ (xs.take k); have:=HTT.out; omega
      have hadd:=fun w:World=>run_float_arith (P:=Tryz.prog) w .add 29 .f64 _ _ _ (zAz (totC (negs (xs.take k))) xs[k].2 (by omega))
      obtain ⟨x,hxx⟩:∃ x,x=xs[k]:=⟨_,rfl⟩
      rw [← hxx] at c0 c1 hng hcmp hadd
      obtain ⟨x,n⟩:=x
      dsimp only at c0 c1 hng hcmp hadd
      have hz:=hbw.size
      have HO:=Lib.hid hown
      have hlie:LieR (wr.alloc (.cells #[.float .f64 x,.float .f64 (nf n)] 38)) ar (fi (negs (xs.take k)).reverse):=(zBR hown.1.1).2.2.2.later ((Below.refl _ wr).alloc (Nat.le_refl _) _)
      have hbb:Below wc.heap.size wc (wr.alloc (.cells #[.float .f64 x,.float .f64 (nf n)] 38)):=hbw.alloc hz _
      have hlk:(negs (xs.take k)).length≤k:=by
        have:=List.length_filter_le (fun q:Nat × Nat=>decide (vI q.1<0)) (xs.take k)
        rw [List.length_take] at this
        unfold negs; omega
      have HBB:=Lib.hid hbb
      have HLI:=Lib.hid hlie
      have HNG:=Lib.hid hng
      clear hsn hng hxk hfv f0 hsz hown hbw hlie hcell hbb hxx
      by_cases hv:vI x<0
      · have hcmp':(FloatKind.f64.format.order x 0 == some .lt)=true:=hcmp.trans (by simpa using hv)
        have hB0:=heap_alloc_new wr (.cells #[.float .f64 x,.float .f64 (nf n)] 38)
        rw [if_pos hv] at HNG
        clear hcmp
        go_wp2_with (at_builtin; refine zEy (wr.alloc (.cells #[.float .f64 x,.float .f64 (nf n)] 38)) (wr.heap.size+1) (by simp) x (nf n) (fi (negs (xs.take k)).reverse) rfl _ _ rfl ar (negs (xs.take k)).length c (by rw [zAK,List.length_reverse]) rfl rfl HLI.out (by rw [zAK,List.length_reverse]; omega) ?_; intro ao1 cp1 w1 hown1 hb1 hk1)
        go_roundw
        case rel =>
          refine ⟨k+1,ao1,cp1,by omega,by go_num,?_,?_,?_⟩
          · rw [HNG.out,zBc]; rfl
          · rw [HNG.out,List.length_append]; rfl
          · rw [HNG.out,List.length_append,List.reverse_append]
            have hbz:=HBB.out.size
            refine ⟨⟨?_,fun k' hk'=>?_⟩,HBB.out.trans (hb1.mono hbz)⟩
            · have:=hown1
              rw [show ((x,nf n) :: fi (negs (xs.take k)).reverse)=fi ([(x,n)].reverse++(negs (xs.take k)).reverse) from rfl] at this
              have hl9:(fi ([(x,n)].reverse++(negs (xs.take k)).reverse)).length=(negs (xs.take k)).length+1:=by rw [zAK,List.length_append,List.length_reverse,List.length_reverse]; simp; omega
              rw [hl9]; exact this
            · have:=hk1 k' hk'; omega
        case measure=>simp [intOf]; omega
      · have hcmp':(FloatKind.f64.format.order x 0 == some .lt)=false:=hcmp.trans (by simpa using hv)
        rw [if_neg hv,List.append_nil] at HNG
        clear hcmp
        go_wp2
        go_roundw
        case rel =>
          refine ⟨k+1,ar,c,by omega,by go_num,?_,?_,?_⟩
          · rw [HNG.out]
          · rw [HNG.out]
          · rw [HNG.out]
            exact ⟨⟨HO.out.1.1.alloc _,HO.out.1.2⟩,HBB.out⟩
        case measure=>simp [intOf]; omega
    · obtain rfl:k=xs.length:=by omega
      rw [List.take_length] at hown ⊢
      have HO:=Lib.hid hown
      have hlt2:=HL2.out.later hown.2
      have HLR:=(zBR hown.1.1).2.2.2
      have HBW:=Lib.hid (HBC.out.trans (hown.2.mono HBC.out.size))
      have HLX:=Lib.hid hlt2
      have HLY:=Lib.hid HLR
      obtain ⟨q3,q4⟩:=Q3.out
      obtain ⟨q5,q6⟩:=Q5.out
      clear hown hlt hlt2 HLR
      cases b1:(FloatKind.f64.format.order e1 4517329193108106637 == some .gt) <;> cases b2:(FloatKind.f64.format.order e2 4517329193108106637 == some .gt) <;> cases b3:(FloatKind.f64.format.order r (nf (totC (negs xs))) == some .eq)
      all_goals
        cases b4:(FloatKind.f64.format.order r (nf (totC (negs xs))) == some .lt)
        · have hq:zDs xs r r2=valF r 0 xs:=by unfold zDs; rw [if_neg (by unfold flt; rw [b4]; simp)]
          have HQ:=Lib.hid hq; clear hq
          go_wp2_with (go_at_call 39; refine (HHF.out _ HLX.out).mono ?_; rintro e wf ⟨⟨b,rfl⟩,hbf⟩; cases b)
          all_goals
            go_ret2
            exact ⟨⟨_,by rw [HQ.out]; rfl⟩,HBW.out.trans (hbf.mono HBW.out.size)⟩
        · have hq:zDs xs r r2=valF r2 0 (negs xs).reverse:=by unfold zDs; rw [if_pos (by unfold flt; rw [b4])]
          have HQ:=Lib.hid hq; clear hq
          go_wp2_with (go_at_call 39; refine (HHT.out ar c _ HLY.out (HNE.out b4)).mono ?_; rintro e wf ⟨⟨b,rfl⟩,hbf⟩; cases b)
          all_goals
            go_ret2
            exact ⟨⟨_,by rw [HQ.out]; rfl⟩,HBW.out.trans (hbf.mono HBW.out.size)⟩
end Go.Proofs.YtllaekopaglolaaGreat
end
/-
  laws.right: it is true of what is near.
-/
section
namespace Go.Proofs.YtllaekopaglolaaGreat
open Go.RowKit
open Ieee
set_option exponentiation.threshold 5000
theorem zBb {a b:Items} (h:a.Perm b):totC a=totC b:=by
  induction h with
  | nil=>rfl
  | cons x _ ih=>show _+_=_+_; rw [ih]
  | swap x y l=>show y.2+(x.2+totC l)=x.2+(y.2+totC l); omega
  | trans _ _ i1 i2=>rw [i1,i2]
theorem zCl {w w':World} {ao:Option Addr} {ps:List Nat} (h:LieN w ao ps) (hb:Below w.heap.size w w'):LieN w' ao ps:=by
  rcases h with h | ⟨g,off,rfl,h⟩
  · exact .inl h
  · exact .inr ⟨g,off,rfl,fun i hi=>(hb.cell (World.block_lt_of_cell? w _ (h i hi))).trans (h i hi)⟩
def zFf (L:Items) (q out part:Nat):Prop :=
  ∃ c1 r r1 r2 R R2,fsub (nf (totC L)) 4607182418800017408=some c1∧fmul q c1=some r∧FV r R ∧ -1000000≤qv R∧qv R≤1000000∧fsub (nf (totC (negs L))) 4607182418800017408=some r1∧fsub r1 r=some r2∧FV r2 R2 ∧ -1000000≤qv R2∧qv R2≤1000000 ∧
    (flt r (nf (totC (negs L)))=true→0<(negs L).length)∧zDy out (zDs L r r2) part=some true
def zXZ (n:Nat) (w wr:World) (i:Value):Prop:=∃ k,k≤n∧i = .int .i64 (k:Int)∧Below w.heap.size w wr
def zWP (M:Rat) (xs:Items) (w wr:World) (v i:Value):Prop :=
  ∃ k l,k≤xs.length∧i = .int .i64 (k:Int)∧v = .float .f64 l∧Hid (NInv l (absI (xs.take k)) M ((xs.take k).length:Nat))∧Below w.heap.size w wr
def zVA (xs:Items) (w:World) (e:Ending) (w':World):Prop:=∃ L a c,L.Perm xs∧Srt L∧Hid (L.length=xs.length)∧e = .returned (.slice a L.length c)∧LieR w' a (fi L)∧Below w.heap.size w w'
theorem zJN {xs:Items} {w w':World} {e:Ending} (h:zHs xs w e w'):zVA xs w e w':=by
  obtain ⟨L,hp,hs,a,c,he,ho⟩:=h
  rw [zAK] at he ho
  exact ⟨L,a,c,hp,hs,Lib.hid hp.length_eq,he,(zBR ho.1.1).2.2.2,ho.2⟩
set_option maxRecDepth 100000 in
set_option maxHeartbeats 2000000 in
theorem zRh (a pa part c x lo hi cx cq cv:Nat) (ax aq av:Option Addr) (xs:Items) (qs vals:List Nat) (B:Rat) (w:World) (hl:LieR w ax (fi xs)) (hq:LieN w aq qs) (hv:LieN w av vals) (hvl:vals.length=qs.length) (hql:qs.length≤1000000)
   (h0:0<xs.length) (hn:xs.length≤400) (hx:∀ q∈xs,zAU q) (hc:c=nf (totC xs)) (hpa:fmul a 4607182418804521008=some pa) (hpart:fadd pa 4427486594234968593=some part)
   (hQ:∀ L,L.Perm xs→Srt L→∀ i,(h:i<qs.length)→zFf L qs[i] (vals[i]'(by omega)) part)
   (hB0:0≤B) (hB1:B≤1099511627776) (hB:qv (absI xs)≤B)
   (hS:∀ l z,NInv l (sumI xs) B (xs.length:Nat)→NInv z (absI xs) B (xs.length:Nat)→∃ d m p1 p2,fsub x l=some d∧maxO d (negF d)=some m∧fmul z part=some p1∧fadd p1 4472406533629990549=some p2∧fle m p2=true)
   (hlo:∀ L:Items,L.Perm xs→Srt L→∀ h:0<L.length,zDy lo L[0].1 part=some true) (hhi:∀ L:Items,L.Perm xs→Srt L→∀ h:L.length - 1<L.length,zDy hi L[L.length - 1].1 part=some true) :
    Calls Tryz.prog 10 #[.float .f64 a,.slice ax xs.length cx,.slice aq qs.length cq,.slice av vals.length cv,.float .f64 c,.float .f64 x,.float .f64 lo,.float .f64 hi] w fun e w'=>e = .returned (.bool true)∧Below w.heap.size w w':=by
  have HSO:=(zJM ax cx xs w hl (by omega) hx).mono fun e w' h=>zJN h
  have hceq:(FloatKind.f64.format.order c c != some .eq)=false:=by
    have:=zDa hx
    rw [hc,zBn _ _ (by omega) (by omega),Nat.compare_eq_eq.2 rfl]; rfl
  have HCN:∀ (L:Items) a' c' w',LieR w' a' (fi L)→L.Perm xs→Calls Tryz.prog 18 #[.slice a' L.length c'] w' fun e w''=>e = .returned (.float .f64 c)∧Below w'.heap.size w' w'':=fun L a' c' w' h hp=>by
    have:=zDa hx
    have h2:=zIO a' c' L w' h (by rw [hp.length_eq]; omega) (by rw [zBb hp]; omega)
    rw [zBb hp,← hc] at h2
    exact h2
  have hn2:(vals.length:Int)=(qs.length:Int):=by omega
  have q1:=fun w:World=>run_float_arith (P:=Tryz.prog) w .mul 29 .f64 _ _ _ hpa
  have q2:=fun w:World=>run_float_arith (P:=Tryz.prog) w .add 29 .f64 _ _ _ hpart
  have HQQ:=Lib.hid hq
  have HVV:=Lib.hid hv
  have HX:=Lib.hid hx
  have HC:=Lib.hid hc
  have HQ:=Lib.hid hQ
  have HB:=Lib.hid (And.intro hB0 (And.intro hB1 hB))
  have HS:=Lib.hid hS
  have HLO:=Lib.hid hlo
  have HHI:=Lib.hid hhi
  have HVL:=Lib.hid hvl
  have HTC:=Lib.hid (show totC xs<1000000 by have:=zDa hx; omega)
  clear hl hq hv hx hc hpa hpart hQ hB0 hB1 hB hS hlo hhi
  go_enter Tryz.func10,Tryz.ntmps10
  have HCC:=Lib.hid HCN
  clear HCN
  go_wp2_with (first | (go_at_call 17; (with_reducible refine HSO.mono ?_); clear HSO; rintro e w1 ⟨L,aL,cL,hperm,hsrt,HLl,rfl,hlie1,hb1⟩; have HPM:=Lib.hid hperm; have HSR:=Lib.hid hsrt; have HL1:=Lib.hid hlie1; have HB1:=Lib.hid hb1; clear hperm hsrt hlie1 hb1) | (go_at_call 18; (with_reducible refine (HCC.out L aL cL w1 HL1.out HPM.out).mono ?_); clear HCC; rintro e w2 ⟨rfl,hb2⟩; have HB2:=Lib.hid (HB1.out.trans (hb2.mono HB1.out.size)); have HL2:=Lib.hid (HL1.out.later hb2); clear hb2))
  have HNQ:=Lib.hid (HQ.out L HPM.out HSR.out)
  have HNL:=Lib.hid (HLO.out L HPM.out HSR.out)
  have HNH:=Lib.hid (HHI.out L HPM.out HSR.out)
  have HLX:Hid (∀ q∈L,zAU q):=Lib.hid fun q hq=>HX.out q (HPM.out.mem_iff.1 hq)
  have HZ:Hid (0<L.length∧L.length≤400):=Lib.hid (by rw [HLl.out]; exact ⟨h0,hn⟩)
  have HTL:Hid (totC L<1000000):=Lib.hid (by rw [zBb HPM.out]; exact HTC.out)
  clear HQ HLO HHI
  go_loopw [42] (fun i wr=>zXZ qs.length w2 wr i) (fun i _=>qs.length - (intOf i).toNat)
  case atStart=>exact ⟨0,by omega,rfl,Below.refl _ _⟩
  case round =>
    obtain ⟨k,hk,rfl,hb⟩:=hrel
    have HW:=Lib.hid (HB2.out.trans (hb.mono HB2.out.size))
    have HBK:=Lib.hid hb
    have HL3:=Lib.hid (HL2.out.later hb)
    clear hb
    by_cases hlt:k<qs.length
    · rcases (zCl HQQ.out HW.out) with h0' | ⟨g,off,rfl,hcell⟩
      · have:=congrArg List.length h0'; rw [List.length_nil] at this; omega
      rcases (zCl HVV.out HW.out) with h0' | ⟨g2,off2,rfl,hcell2⟩
      · have:=congrArg List.length h0'; rw [List.length_nil] at this; have:=HVL.out; omega
      have d0:=hcell k hlt
      have d1:=hcell2 k (by have:=HVL.out; omega)
      obtain ⟨c1,r,r1,r2,R,R2,p1,p2,p3,p4,p5,p6,p7,p8,p9,p10,p11,p12⟩:=HNQ.out k hlt
      have HQS:=Lib.hid (zO7 aL cL qs[k] c1 r r1 r2 R R2 L wr HL3.out HZ.out.1 (by have:=HZ.out.2; omega) HLX.out HTL.out p1 p2 p3 p4 p5 p6 p7 p8 p9 p10 p11)
      have HNE:=Lib.hid (fun w=>zHE _ _ _ _ w p12)
      obtain ⟨v,hv⟩:∃ v,v=zDs L r r2:=⟨_,rfl⟩
      rw [← hv] at HQS HNE
      generalize qs[k]=q at d0 HQS
      have hvk:k<vals.length:=by have:=HVL.out; omega
      obtain ⟨u,hu⟩:∃ u,u=vals[k]:=⟨_,rfl⟩
      rw [← hu] at d1 HNE
      have d2:∀ w',Below wr.heap.size wr w'→w'.cell? ⟨g2,off2+k,none⟩=some (.float .f64 u):=fun w' hb=>(hb.cell (World.block_lt_of_cell? wr _ d1)).trans d1
      have D2:=Lib.hid d2
      clear hcell hcell2 p1 p2 p3 p4 p5 p6 p7 p8 p9 p10 p11 p12 hv hu d2
      go_wp2_with (first | (go_at_call 19; (with_reducible refine HQS.out.mono ?_); rintro e w4 ⟨⟨b,rfl⟩,hb4⟩; have d3:=D2.out w4 hb4; cases b) | (go_at_call 20; (with_reducible refine (HNE.out _).mono ?_); rintro e w5 ⟨rfl,rfl⟩))
      all_goals
        go_roundw
        case rel=>exact ⟨k+1,by omega,by go_num,HBK.out.trans (hb4.mono HBK.out.size)⟩
        case measure=>simp [intOf]; omega
    · obtain rfl:k=qs.length:=by omega
      clear HNQ hlt
      go_wp2
      obtain ⟨z0,hz0⟩:∃ z:Nat,z=0:=⟨0,rfl⟩
      have HZ0:Hid (NInv 0 (absI []) B (([]:Items).length:Nat)):=Lib.hid (zU0 HB.out.1 HB.out.2.1)
      go_loopw [23,72] (fun v i wr2=>zWP B L wr wr2 v i) (fun _ i _=>L.length - (intOf i).toNat)
      case atStart=>exact ⟨0,0,by omega,rfl,rfl,by rw [List.take_zero]; exact HZ0,Below.refl _ _⟩
      case round =>
        obtain ⟨k,l,hk,rfl,rfl,HN,hb⟩:=hrel
        have hkb:=HZ.out.2
        by_cases hlt:k<L.length
        · rcases HL3.out.later hb with h0' | ⟨g,off,rfl,hcell⟩
          · have:=congrArg List.length h0'; rw [zAK,List.length_nil] at this; omega
          obtain ⟨c0,c1⟩:=hcell k (by rw [zAK]; exact hlt)
          rw [zEg] at c0 c1
          dsimp only at c0 c1
          have hsn:L.take (k+1)=L.take k++[L[k]]:=List.take_succ_eq_append_getElem hlt
          obtain ⟨m,p,l',hm,hp,hl',hst⟩:=zTN HN.out (HLX.out _ (List.getElem_mem hlt)) (by
            rw [← hsn]
            have h1:=zA9 (zHn L (k+1))
            have h2:=HB.out.2.2
            rw [← zHo HPM.out] at h2
            grind) (by rw [List.length_take]; have:=HZ.out; omega)
          rw [← hsn] at hst
          have HST:=Lib.hid hst
          obtain ⟨x1,hx1⟩:∃ x,x=L[k].1:=⟨_,rfl⟩
          obtain ⟨b,hbb⟩:∃ b,b=nf L[k].2:=⟨_,rfl⟩
          rw [← hbb] at c1 hp
          rw [← hx1] at c0 hm
          have r0:=fun (w:World) ts t=>zB8 (P:=Tryz.prog) w ts t x1 (negF x1) m hm
          have r1:=fun w:World=>run_float_arith (P:=Tryz.prog) w .mul 29 .f64 _ _ _ hp
          have r2:=fun w:World=>run_float_arith (P:=Tryz.prog) w .add 29 .f64 _ _ _ hl'
          have HBB:=Lib.hid hb
          have hz:=hb.size
          clear hbb hx1 hb hcell hp hl' hm hst hsn HN
          go_wp2
          go_roundw
          case rel=>exact ⟨k+1,l',by omega,by go_num,rfl,HST,HBB.out.alloc hz _⟩
          case measure=>simp [intOf]; omega
        · obtain rfl:k=L.length:=by omega
          have hN:=HN.out
          rw [List.take_length] at hN
          have HNN:=Lib.hid hN
          have HLR:=Lib.hid (HL3.out.later hb)
          have HBB:=Lib.hid (HW.out.trans (hb.mono HW.out.size))
          clear hN HN hlt hb
          have HSU:=zTo aL cL L B wr HLR.out (by have:=HZ.out; omega) HLX.out HB.out.1 HB.out.2.1 (by have h2:=HB.out.2.2; rw [← zHo HPM.out] at h2; exact h2)
          have HSUU:=Lib.hid HSU
          have HFIN:Hid (∀ l2,NInv l2 (sumI L) B (L.length:Nat)→∃ d m p1 p2,fsub x l2=some d∧maxO d (negF d)=some m∧fmul l part=some p1∧fadd p1 4472406533629990549=some p2∧fle m p2=true):=Lib.hid fun l2 h2=>by
            have h3:=HNN.out
            rw [zRO HPM.out,HLl.out] at h2
            rw [zHo HPM.out,HLl.out] at h3
            exact HS.out l2 l h2 h3
          clear HSU
          rcases HLR.out with h0' | ⟨g,off,rfl,hcell⟩
          · have:=congrArg List.length h0'; rw [zAK,List.length_nil] at this; have:=HZ.out; omega
          obtain ⟨m,hm⟩:∃ m,L.length=m+1:=⟨L.length - 1,by have:=HZ.out; omega⟩
          obtain ⟨c0,-⟩:=hcell 0 (by rw [zAK]; omega)
          obtain ⟨c1,-⟩:=hcell m (by rw [zAK]; omega)
          rw [zEg] at c0 c1
          dsimp only at c0 c1
          have hnl:=HNL.out (by omega)
          have hnh:=HNH.out (by omega)
          have hmm:L[L.length - 1]'(by omega)=L[m]'(by omega):=by congr 1; omega
          rw [hmm] at hnh
          have N0:=Lib.hid (fun w=>zHE _ _ _ _ w hnl)
          have N1:=Lib.hid (fun w=>zHE _ _ _ _ w hnh)
          rw [Nat.zero_mul,Nat.add_zero] at c0
          obtain ⟨x0,hx0⟩:∃ x0,x0=(L[0]'(by omega)).1:=⟨_,rfl⟩
          obtain ⟨x1,hx1⟩:∃ x1,x1=(L[m]'(by omega)).1:=⟨_,rfl⟩
          rw [← hx0] at c0 N0
          rw [← hx1] at c1 N1
          have D0:Hid (∀ w',Below wr.heap.size wr w'→w'.cell? ⟨g,off,none⟩=some (.float .f64 x0)∧w'.cell? ⟨g,off+m*2,none⟩=some (.float .f64 x1)):=Lib.hid fun w' hb=>⟨(hb.cell (World.block_lt_of_cell? wr _ c0)).trans c0,(hb.cell (World.block_lt_of_cell? wr _ c1)).trans c1⟩
          have hmb:m<2147483647:=by omega
          have e1:(((m+1:Nat):Int) - 1)=(m:Int):=by omega
          rw [hm] at HSUU ⊢
          have HM:=Lib.hid hm
          clear hm hcell c0 c1 hnl hnh hmm hx0 hx1
          go_wp2_with (first | (go_at_call 21; (with_reducible refine HSUU.out.mono ?_); clear HSUU; rintro e w6 ⟨l2,rfl,hn2,hb6⟩; obtain ⟨d,mm,p1,p2,f1,f2,f3,f4,f5⟩:=HFIN.out l2 (by rw [HM.out]; exact hn2); obtain ⟨u0,u1⟩:=D0.out w6 hb6; have k1:=fun w:World=>run_float_arith (P:=Tryz.prog) w .sub 29 .f64 _ _ _ f1; have k2:=fun (w:World) ts t=>zB8 (P:=Tryz.prog) w ts t d (negF d) mm f2; have k3:=fun w:World=>run_float_arith (P:=Tryz.prog) w .mul 29 .f64 _ _ _ f3; have k4:=fun w:World=>run_float_arith (P:=Tryz.prog) w .add 29 .f64 _ _ _ f4; have k5:(FloatKind.f64.format.order mm p2 == some .lt||FloatKind.f64.format.order mm p2 == some .eq)=true:=f5; have HB6:=Lib.hid hb6; clear f1 f2 f3 f4 f5 hn2 hb6) | (go_at_call 20; (with_reducible refine (N0.out _).mono ?_); rintro e w7 ⟨rfl,rfl⟩) | (go_at_call 20; (with_reducible refine (N1.out _).mono ?_); rintro e w7 ⟨rfl,rfl⟩))
          go_ret
          exact ⟨rfl,HBB.out.trans (HB6.out.mono HBB.out.size)⟩
end Go.Proofs.YtllaekopaglolaaGreat
end
