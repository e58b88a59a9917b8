/-
  impl.Quantiles: what a sketch of a list says.
-/
import Derived.Test.YtllaekopaglolaaGreatGBM
import Derived.Test.YtllaekopaglolaaGreatGAJ
import Derived.Test.YtllaekopaglolaaGreatGAK
section
namespace Go.Proofs.YtllaekopaglolaaGreat
open Go.RowKit
section
variable {kind mk:Int} {K:StoreKind kind} {of_:Nat→Option (Nat × Nat × Nat × Nat × Nat)} {acc:Nat→Option Nat} {idx:Nat→Nat→Nat→Option Int} {lower:Nat→Nat→Int→Option Nat} {value:Nat→Nat→Nat→Int→Option Nat}
set_option maxRecDepth 100000 in
set_option maxHeartbeats 1000000 in
theorem quant1_any (M:MapKind mk of_ acc idx lower value) (most:Int) (a g off mult mn mx cp:Nat) (B:Rat) (ao:Option Addr) (xs:Items) (b0 b1 b2 b3 b4:Nat) (w:World) (hk:knownB kind most=true) (hmk:of_ a=some (g,off,mult,mn,mx)) (hb:Bnd mn mx) (hi2:IdxOk (idx off mult))
   (hl:LieQ w ao xs) (hx:∀ q∈xs,ItemOk q) (hn:xs.length≤400) (hB0:0≤B) (hB1:B≤1099511627776) (hB:qv (absI xs)≤B)
   (h0:w.cell? ⟨b0,0,none⟩=some (.int .i64 mk)) (h1:w.cell? ⟨b1,0,none⟩=some (.float .f64 a)) (h2:w.cell? ⟨b2,0,none⟩=some (.int .i64 kind)) (h3:w.cell? ⟨b3,0,none⟩=some (.int .i64 most)) (h4:w.cell? ⟨b4,0,none⟩=some (.slice ao xs.length cp)) :
    Calls Tryz.prog 15 #[.pointer (some ⟨b0,0,none⟩),.pointer (some ⟨b1,0,none⟩),.pointer (some ⟨b2,0,none⟩),.pointer (some ⟨b3,0,none⟩),.pointer (some ⟨b4,0,none⟩)] w fun e w'=>GivesSk K M most g off mult mn mx B xs w e w':=by
  have H:=sketched_any (K:=K) M most a g off mult mn mx cp B ao xs w hk hmk hb hi2 hl hx hn hB0 hB1 hB
  clear hk hmk hb hi2 hl hx hB0 hB1 hB
  go_enter Tryz.func15,Tryz.ntmps15
  go_wp2_with (go_at_call 16; (with_reducible refine H.mono ?_); rintro e w' ⟨pe,pd,pt,pm,pp,pn,SP,SN,rfl,hh,hf,hb⟩; have HH:=Lib.hid hh; have HF:=Lib.hid hf; have HB:=Lib.hid hb; clear hh hf hb)
  go_ret2
  exact ⟨pe,pd,pt,pm,pp,pn,SP,SN,rfl,HH.out,HF.out,HB.out⟩
set_option maxRecDepth 100000 in
set_option maxHeartbeats 1000000 in
theorem quant_any (Q:SkKind K) (M:MapKind mk of_ acc idx lower value) (most:Int) (a g off mult mn mx cp cl:Nat) (B:Rat) (ao al:Option Addr) (xs:Items) (qs outs:List Nat) (w:World) (hk:knownB kind most=true) (hmk:of_ a=some (g,off,mult,mn,mx)) (hb:Bnd mn mx) (hi2:IdxOk (idx off mult))
   (hl:LieQ w al xs) (hx:∀ q∈xs,ItemOk q) (hn:xs.length≤400) (hB0:0≤B) (hB1:B≤1099511627776) (hB:qv (absI xs)≤B)
   (hq:LieN w ao qs) (hqn:qs.length≤1000000) (hlen:outs.length=qs.length)
   (hp:Few kind most (posBins (idx off mult) xs)) (hng:Few kind most (negBins (idx off mult) xs)) (hz:zeros xs<1000000) (hcc:0<zeros xs+tot (posBins (idx off mult) xs)+tot (negBins (idx off mult) xs))
   (hA:∀ k,(hk:k<qs.length)→AskOut (value g off mult) (posBins (idx off mult) xs) (negBins (idx off mult) xs) (zeros xs) qs[k] (outs.getD k 0)) :
    Calls Tryz.prog 9 #[.int .i64 mk,.float .f64 a,.int .i64 kind,.int .i64 most,.slice al xs.length cl,.slice ao qs.length cp] w fun e w'=>AskGives B xs outs w e w':=by
  have hmf:∀ (fn:Fn) (first cap:Array Value) (w:World),(Instr.makeFunc fn first cap).run Tryz.prog w = .ok (.func fn first cap) w:=fun _ _ _ _=>rfl
  have f0:=alloc_at (w:=w) (o:=.cells #[.int .i64 mk] 3) rfl
  have s0:=alloc_size (w:=w) (o:=.cells #[.int .i64 mk] 3) rfl
  have b0:Below w.heap.size w (w.alloc (.cells #[.int .i64 mk] 3)):=(Below.refl _ w).alloc (Nat.le_refl _) _
  obtain ⟨W0,hW0⟩:∃ W,W=w.alloc (.cells #[.int .i64 mk] 3):=⟨_,rfl⟩
  rw [← hW0] at f0 s0 b0
  have f1:=alloc_at (w:=W0) (o:=.cells #[.float .f64 a] 29) s0
  have s1:=alloc_size (w:=W0) (o:=.cells #[.float .f64 a] 29) s0
  replace f0:=alloc_old (o:=.cells #[.float .f64 a] 29) f0
  have b1:Below w.heap.size w (W0.alloc (.cells #[.float .f64 a] 29)):=b0.alloc (by omega) _
  obtain ⟨W1,hW1⟩:∃ W,W=W0.alloc (.cells #[.float .f64 a] 29):=⟨_,rfl⟩
  rw [← hW1] at f0 f1 s1 b1
  have f2:=alloc_at (w:=W1) (o:=.cells #[.int .i64 kind] 3) s1
  have s2:=alloc_size (w:=W1) (o:=.cells #[.int .i64 kind] 3) s1
  replace f0:=alloc_old (o:=.cells #[.int .i64 kind] 3) f0
  replace f1:=alloc_old (o:=.cells #[.int .i64 kind] 3) f1
  have b2:Below w.heap.size w (W1.alloc (.cells #[.int .i64 kind] 3)):=b1.alloc (by omega) _
  obtain ⟨W2,hW2⟩:∃ W,W=W1.alloc (.cells #[.int .i64 kind] 3):=⟨_,rfl⟩
  rw [← hW2] at f0 f1 f2 s2 b2
  have f3:=alloc_at (w:=W2) (o:=.cells #[.int .i64 most] 3) s2
  have s3:=alloc_size (w:=W2) (o:=.cells #[.int .i64 most] 3) s2
  replace f0:=alloc_old (o:=.cells #[.int .i64 most] 3) f0
  replace f1:=alloc_old (o:=.cells #[.int .i64 most] 3) f1
  replace f2:=alloc_old (o:=.cells #[.int .i64 most] 3) f2
  have b3:Below w.heap.size w (W2.alloc (.cells #[.int .i64 most] 3)):=b2.alloc (by omega) _
  obtain ⟨W3,hW3⟩:∃ W,W=W2.alloc (.cells #[.int .i64 most] 3):=⟨_,rfl⟩
  rw [← hW3] at f0 f1 f2 f3 s3 b3
  have f4:=alloc_at (w:=W3) (o:=.cells #[.slice al xs.length cl] 22) s3
  have s4:=alloc_size (w:=W3) (o:=.cells #[.slice al xs.length cl] 22) s3
  replace f0:=alloc_old (o:=.cells #[.slice al xs.length cl] 22) f0
  replace f1:=alloc_old (o:=.cells #[.slice al xs.length cl] 22) f1
  replace f2:=alloc_old (o:=.cells #[.slice al xs.length cl] 22) f2
  replace f3:=alloc_old (o:=.cells #[.slice al xs.length cl] 22) f3
  have b4:Below w.heap.size w (W3.alloc (.cells #[.slice al xs.length cl] 22)):=b3.alloc (by omega) _
  obtain ⟨W4,hW4⟩:∃ W,W=W3.alloc (.cells #[.slice al xs.length cl] 22):=⟨_,rfl⟩
  rw [← hW4] at f0 f1 f2 f3 f4 s4 b4
  have lq:LieN W4 ao qs:=by
    rcases hq with h0 | ⟨gq,oq,e,hc⟩
    · exact .inl h0
    · exact .inr ⟨gq,oq,e,fun i hi=>(b4.cell (World.block_lt_of_cell? w _ (hc i hi))).trans (hc i hi)⟩
  have HF:∀ w',Below W4.heap.size W4 w'→Calls Tryz.prog 15 #[.pointer (some ⟨w.heap.size,0,none⟩),.pointer (some ⟨w.heap.size+1,0,none⟩),.pointer (some ⟨w.heap.size+1+1,0,none⟩),.pointer (some ⟨w.heap.size+1+1+1,0,none⟩),.pointer (some ⟨w.heap.size+1+1+1+1,0,none⟩)] w' fun e w''=>GivesSk K M most g off mult mn mx B xs w' e w'':=fun w' hbw =>
    quant1_any M most a g off mult mn mx cl B al xs _ _ _ _ _ w' hk hmk hb hi2 ((hl.later b4).later hbw) hx hn hB0 hB1 hB (cell_of_one ((hbw.5 _ (lt_of_block f0)).trans f0)) (cell_of_one ((hbw.5 _ (lt_of_block f1)).trans f1)) (cell_of_one ((hbw.5 _ (lt_of_block f2)).trans f2)) (cell_of_one ((hbw.5 _ (lt_of_block f3)).trans f3)) (cell_of_one ((hbw.5 _ (lt_of_block f4)).trans f4))
  have H:=asked_any Q M most g off mult mn mx cp B xs 15 #[.pointer (some ⟨w.heap.size,0,none⟩),.pointer (some ⟨w.heap.size+1,0,none⟩),.pointer (some ⟨w.heap.size+1+1,0,none⟩),.pointer (some ⟨w.heap.size+1+1+1,0,none⟩),.pointer (some ⟨w.heap.size+1+1+1+1,0,none⟩)] ao qs outs W4
    (fun args w=>run_enter Tryz.func15 (by kernel_rfl) rfl args w) HF lq hqn hlen hp hng hz hcc hA
  have HB4:=Lib.hid b4
  clear HF f0 f1 f2 f3 f4 s0 s1 s2 s3 s4 b0 b1 b2 b3 b4 lq hk hmk hb hi2 hl hx hB0 hB1 hB hq hp hng hz hcc hA hlen
  go_enter Tryz.func9,Tryz.ntmps9
  go_wp2_with fail
  rw [← hW0,← hW1,← hW2,← hW3,← hW4]
  refine H.mono ?_
  clear H hW0 hW1 hW2 hW3 hW4
  rintro e w' ⟨c,s,k,l,lo,hi,x,gv,rfl,i1,i2,hrow,hbl⟩
  have HI:=Lib.hid (And.intro i1 (And.intro i2 hrow))
  have HBL:=Lib.hid hbl
  clear i1 i2 hrow hbl
  go_wp2
  refine bodyPost_ret (v:=.tuple #[.slice (some ⟨gv,0,none⟩) outs.length outs.length,.float .f64 c,.float .f64 x,.float .f64 lo,.float .f64 hi,.bool true]) (by simp only [results,Tryz.results9]; simp [go_sem]) rfl ?_
  exact ⟨c,s,k,l,lo,hi,x,gv,rfl,HI.out.1,HI.out.2.1,HI.out.2.2,HB4.out.trans (HBL.out.mono HB4.out.size)⟩
end
end Go.Proofs.YtllaekopaglolaaGreat
end
/-
  Closed looks at what a mapping is made of: what is looked at,and what it tells.
-/
section
namespace Go.Proofs.YtllaekopaglolaaGreat
open Go.RowKit
open Ieee
def parLook (of:Nat→Option (Nat × Nat × Nat × Nat × Nat)) (acc:Nat→Option Nat) (idx:Nat→Option Int) (a off mult rb:Nat) (i0 i1:Int):Bool :=
  match of a with
  | some (g,o,m,mn,mx) =>
    Nat.beq o off&&(Nat.beq m mult&&(match acc g with
      | some ra=>(match qadd 4607182418800017408 ra with | some r=>Nat.beq r rb | none=>false)&&(match nearO ra a 4472406533629990549 with | some t=>t | none=>false)
      | none=>false)&&(posB mn&&finB mx&&qlt mn 4517329193108106637&&(qgt mx 4696837146684686336&&((match idx 4517329193108106637 with | some i=>decide (i=i0) | none=>false)&&(match idx 4696837146684686336 with | some i=>decide (i=i1) | none=>false)))))
  | none=>false
theorem parLook_is {of:Nat→Option (Nat × Nat × Nat × Nat × Nat)} {acc:Nat→Option Nat} {idx:Nat→Option Int} {a off mult rb:Nat} {i0 i1:Int} (h:parLook of acc idx a off mult rb i0 i1=true) :
    ∃ g mn mx ra,of a=some (g,off,mult,mn,mx)∧acc g=some ra∧qadd 4607182418800017408 ra=some rb∧nearO ra a 4472406533629990549=some true∧(posB mn=true∧finB mx=true)∧qlt mn 4517329193108106637=true∧qgt mx 4696837146684686336=true∧idx 4517329193108106637=some i0∧idx 4696837146684686336=some i1:=by
  unfold parLook at h
  cases ho:of a with
  | none=>rw [ho] at h; cases h
  | some q =>
    obtain ⟨g,o,m,mn,mx⟩:=q
    rw [ho] at h
    dsimp only at h
    cases ha:acc g with
    | none=>rw [ha] at h; simp at h
    | some ra =>
      rw [ha] at h
      dsimp only at h
      cases hr:qadd 4607182418800017408 ra with
      | none=>rw [hr] at h; simp at h
      | some r =>
        cases hn:nearO ra a 4472406533629990549 with
        | none=>rw [hr,hn] at h; simp at h
        | some t =>
          cases h0:idx 4517329193108106637 with
          | none=>rw [hr,hn,h0] at h; simp at h
          | some j0 =>
            cases h1:idx 4696837146684686336 with
            | none=>rw [hr,hn,h0,h1] at h; simp at h
            | some j1 =>
              rw [hr,hn,h0,h1] at h
              simp only [Bool.and_eq_true,decide_eq_true_eq] at h
              obtain ⟨e1,⟨e2,e3,e4⟩,⟨⟨f1,f2⟩,e5⟩,e6,e7,e8⟩:=h
              have e1:=beq_nat e1
              have e2:=beq_nat e2
              have e3:=beq_nat e3
              subst e1 e2 e3 e4 e7 e8
              exact ⟨g,mn,mx,ra,rfl,ha,hr,hn,⟨f1,f2⟩,e5,e6,rfl,rfl⟩
end Go.Proofs.YtllaekopaglolaaGreat
end
/-
  Steps of an error analysis: sums and products of floats that are near some fractions.
-/
section
namespace Go.Proofs.YtllaekopaglolaaGreat
open Ieee
set_option exponentiation.threshold 5000
theorem near_mul {x X y Y ex ey bX bY:Rat} (h1:Near x X ex) (h2:Near y Y ey) (x1:-bX≤X) (x2:X≤bX) (y1:-bY≤y) (y2:y≤bY):Near (x*y) (X*Y) (bY*ex+bX*ey):=by
  obtain ⟨a1,a2⟩:=h1
  obtain ⟨b1,b2⟩:=h2
  have p1:=Rat.mul_nonneg (show 0≤ex - (x - X) by grind) (show 0≤bY - y by grind)
  have p2:=Rat.mul_nonneg (show 0≤ex - (x - X) by grind) (show 0≤bY+y by grind)
  have p3:=Rat.mul_nonneg (show 0≤ex+(x - X) by grind) (show 0≤bY - y by grind)
  have p4:=Rat.mul_nonneg (show 0≤ex+(x - X) by grind) (show 0≤bY+y by grind)
  have q1:=Rat.mul_nonneg (show 0≤ey - (y - Y) by grind) (show 0≤bX - X by grind)
  have q2:=Rat.mul_nonneg (show 0≤ey - (y - Y) by grind) (show 0≤bX+X by grind)
  have q3:=Rat.mul_nonneg (show 0≤ey+(y - Y) by grind) (show 0≤bX - X by grind)
  have q4:=Rat.mul_nonneg (show 0≤ey+(y - Y) by grind) (show 0≤bX+X by grind)
  constructor <;> grind
theorem near_bound {x X e b:Rat} (h:Near x X e) (x1:-b≤X) (x2:X≤b):-(b+e)≤x∧x≤b+e:=by
  obtain ⟨a1,a2⟩:=h
  constructor <;> grind
theorem prod_bound {x y bx by':Rat} (x1:-bx≤x) (x2:x≤bx) (y1:-by'≤y) (y2:y≤by'):-(bx*by')≤x*y∧x*y≤bx*by':=by
  have p1:=Rat.mul_nonneg (show 0≤bx - x by grind) (show 0≤by' - y by grind)
  have p2:=Rat.mul_nonneg (show 0≤bx - x by grind) (show 0≤by'+y by grind)
  have p3:=Rat.mul_nonneg (show 0≤bx+x by grind) (show 0≤by' - y by grind)
  have p4:=Rat.mul_nonneg (show 0≤bx+x by grind) (show 0≤by'+y by grind)
  constructor <;> grind
theorem step_mul (K:Nat) {x y:Nat} {a b:Int} {A B ea eb bA bB:Rat} (Q e:Rat) (hK:K≤2000) (hQ:BB K=Q) (hx:FV x a) (hy:FV y b) (na:Near (qv a) A ea) (nb:Near (qv b) B eb)
    (A1:-bA≤A) (A2:A≤bA) (B1:-bB≤qv b) (B2:qv b≤bB) (hlt:(bA+ea)*bB<Q) (he:bB*ea+bA*eb+Q / 18014398509481984≤e) :
    ∃ z,fmul x y=some z∧FV z (rndI 1074 (a*b))∧Near (qv (rndI 1074 (a*b))) (A*B) e:=by
  obtain ⟨a1,a2⟩:=near_bound na A1 A2
  obtain ⟨p1,p2⟩:=prod_bound a1 a2 B1 B2
  obtain ⟨z,hz,hf,n1,n2⟩:=fmul_r K hx hy hK (by rw [hQ]; grind) (by rw [hQ]; grind)
  obtain ⟨m1,m2⟩:=near_mul na nb A1 A2 B1 B2
  rw [hQ] at n1 n2
  exact ⟨z,hz,hf,by grind,by grind⟩
theorem step_add (K:Nat) {x y:Nat} {a b:Int} {A B ea eb:Rat} (Q e:Rat) (hK:K≤2000) (hQ:BB K=Q) (hx:FV x a) (hy:FV y b) (na:Near (qv a) A ea) (nb:Near (qv b) B eb)
    (s1:-Q<A+B - (ea+eb)) (s2:A+B+(ea+eb)<Q) (he:ea+eb+Q / 18014398509481984≤e) :
    ∃ z,fadd x y=some z∧FV z (rndI 0 (a+b))∧Near (qv (rndI 0 (a+b))) (A+B) e:=by
  obtain ⟨a1,a2⟩:=na
  obtain ⟨b1,b2⟩:=nb
  obtain ⟨z,hz,hf,n1,n2⟩:=fadd_r K hx hy hK (by rw [hQ]; grind) (by rw [hQ]; grind)
  rw [hQ] at n1 n2
  exact ⟨z,hz,hf,by grind,by grind⟩
theorem step_sub (K:Nat) {x y:Nat} {a b:Int} {A B ea eb:Rat} (Q e:Rat) (hK:K≤2000) (hQ:BB K=Q) (hx:FV x a) (hy:FV y b) (na:Near (qv a) A ea) (nb:Near (qv b) B eb)
    (s1:-Q<A - B - (ea+eb)) (s2:A - B+(ea+eb)<Q) (he:ea+eb+Q / 18014398509481984≤e) :
    ∃ z,fsub x y=some z∧FV z (rndI 0 (a - b))∧Near (qv (rndI 0 (a - b))) (A - B) e:=by
  obtain ⟨a1,a2⟩:=na
  obtain ⟨b1,b2⟩:=nb
  obtain ⟨z,hz,hf,n1,n2⟩:=fsub_r K hx hy hK (by rw [hQ]; grind) (by rw [hQ]; grind)
  rw [hQ] at n1 n2
  exact ⟨z,hz,hf,by grind,by grind⟩
end Go.Proofs.YtllaekopaglolaaGreat
end
/-
  The cubically interpolated mapping's index: it is told for all floats from 2^-24 to 2^24; a float that is four or more above another one has no lesser index.
-/
section
namespace Go.Proofs.YtllaekopaglolaaGreat
open Go.RowKit
open Ieee
set_option exponentiation.threshold 5000
def polyC (a b c s:Rat):Rat:=((a*s+b)*s+c)*s
theorem poly_step {a b c s t:Rat} (ha:0≤a) (hst:s≤t) (ht:t≤1) (h1:3*a+b≤0) (h2:37 / 50≤3*a+2*b+c):37 / 50*(t - s)≤polyC a b c t - polyC a b c s:=by
  have e:polyC a b c t - polyC a b c s=(a*(t*t+s*t+s*s)+b*(t+s)+c)*(t - s):=by unfold polyC; grind
  rw [e]
  have hd:0≤t - s:=by grind
  refine Rat.mul_le_mul_of_nonneg_right ?_ hd
  have q0:0≤(t - s)*(t - s):=Rat.mul_nonneg hd hd
  have q1:0≤(2 - (t+s))*(2 - (t+s)):=Rat.mul_nonneg (by grind) (by grind)
  have q2:0≤(t*t+s*t+s*s) - 3*(t+s - 1):=by grind
  have q3:=Rat.mul_nonneg ha q2
  have q4:0 ≤ -(3*a+b)*(2 - (t+s)):=Rat.mul_nonneg (by grind) (by grind)
  grind
theorem cub_chain {xa xb xc xs:Nat} {a b c S:Int} (hA:FV xa a) (hB:FV xb b) (hC:FV xc c) (hS:FV xs S) (a0:6 / 35 - 1 / 1000000≤qv a) (a2:qv a≤6 / 35+1 / 1000000) (b1:-(3 / 5+1 / 1000000)≤qv b) (b2:qv b ≤ -(3 / 5 - 1 / 1000000)) (c1:10 / 7 - 1 / 1000000≤qv c) (c2:qv c≤10 / 7+1 / 1000000) (s1:0≤qv S) (s2:qv S≤1) :
    ∃ z1 z2 z3 z4 z5,fmul xa xs=some z1∧fadd z1 xb=some z2∧fmul z2 xs=some z3∧fadd z3 xc=some z4∧fmul z4 xs=some z5 ∧
      FV z5 (rndI 1074 (rndI 0 (rndI 1074 (rndI 0 (rndI 1074 (a*S)+b)*S)+c)*S)) ∧
      Near (qv (rndI 1074 (rndI 0 (rndI 1074 (rndI 0 (rndI 1074 (a*S)+b)*S)+c)*S))) (polyC (qv a) (qv b) (qv c) (qv S)) (23 / 8 / 9007199254740992):=by
  have a1:0≤qv a:=by grind
  obtain ⟨b0,b1',b2',b3,b4,b5,b6,b7,b13,b14,b15⟩:=BB_num
  have hh:∀ K,BB (K+1)=2*BB K:=BB_succ
  have t1:=hh 1020
  have t2:=hh 1019
  simp only [Nat.reduceAdd] at t1 t2
  have B20:BB 1020=1 / 2:=by grind
  have B19:BB 1019=1 / 4:=by grind
  clear hh t1 t2
  have p1:0≤qv a*qv S:=Rat.mul_nonneg a1 s1
  have p2:qv a*qv S≤qv a:=by
    have:=Rat.mul_le_mul_of_nonneg_left s2 a1
    grind
  obtain ⟨z1,g1,f1,n1,n1'⟩:=fmul_r 1019 hA hS (by decide) (by rw [B19]; grind) (by rw [B19]; grind)
  rw [B19] at n1 n1'
  obtain ⟨z2,g2,f2,n2,n2'⟩:=fadd_r 1021 f1 hB (by decide) (by rw [b0]; grind) (by rw [b0]; grind)
  rw [b0] at n2 n2'
  generalize hv1:rndI 1074 (a*S)=v1 at *
  generalize hv2:rndI 0 (v1+b)=v2 at *
  have e2:Near (qv v2) (qv a*qv S+qv b) (5 / 8 / 9007199254740992):=⟨by grind,by grind⟩
  obtain ⟨e2a,e2b⟩:=e2
  have p3:-(3 / 5+1 / 100000)≤qv v2:=by grind
  have p4:qv v2≤0:=by grind
  have err3:-(5 / 8 / 9007199254740992)≤qv v2*qv S - (qv a*qv S+qv b)*qv S∧qv v2*qv S - (qv a*qv S+qv b)*qv S≤5 / 8 / 9007199254740992:=by
    have d1:0≤(qv v2 - (qv a*qv S+qv b)+5 / 8 / 9007199254740992)*qv S:=Rat.mul_nonneg (by grind) s1
    have d2:0≤(5 / 8 / 9007199254740992 - (qv v2 - (qv a*qv S+qv b)))*qv S:=Rat.mul_nonneg (by grind) s1
    constructor <;> grind
  obtain ⟨e3a,e3b⟩:=err3
  have low3:-(9 / 20)≤(qv a*qv S+qv b)*qv S:=by
    have sq:0≤(1 - qv S)*(1 - qv S):=Rat.mul_nonneg (by grind) (by grind)
    have q1:0≤qv a*(qv S*qv S - 2*qv S+1):=Rat.mul_nonneg a1 (by grind)
    have q2:0≤(-(qv b) - 2*qv a)*(1 - qv S):=Rat.mul_nonneg (by grind) (by grind)
    grind
  have up3:(qv a*qv S+qv b)*qv S≤0:=by
    have:0 ≤ -(qv a*qv S+qv b)*qv S:=Rat.mul_nonneg (by grind) s1
    grind
  obtain ⟨z3,g3,f3,n3,n3'⟩:=fmul_r 1020 f2 hS (by decide) (by rw [B20]; grind) (by rw [B20]; grind)
  rw [B20] at n3 n3'
  generalize hv3:rndI 1074 (v2*S)=v3 at *
  obtain ⟨z4,g4,f4,n4,n4'⟩:=fadd_r 1022 f3 hC (by decide) (by rw [b1']; grind) (by rw [b1']; grind)
  rw [b1'] at n4 n4'
  generalize hv4:rndI 0 (v3+c)=v4 at *
  have e4a:-(15 / 8 / 9007199254740992)≤qv v4 - ((qv a*qv S+qv b)*qv S+qv c):=by grind
  have e4b:qv v4 - ((qv a*qv S+qv b)*qv S+qv c)≤15 / 8 / 9007199254740992:=by grind
  have err5:-(15 / 8 / 9007199254740992)≤qv v4*qv S - ((qv a*qv S+qv b)*qv S+qv c)*qv S∧qv v4*qv S - ((qv a*qv S+qv b)*qv S+qv c)*qv S≤15 / 8 / 9007199254740992:=by
    have d1:0≤(qv v4 - ((qv a*qv S+qv b)*qv S+qv c)+15 / 8 / 9007199254740992)*qv S:=Rat.mul_nonneg (by grind) s1
    have d2:0≤(15 / 8 / 9007199254740992 - (qv v4 - ((qv a*qv S+qv b)*qv S+qv c)))*qv S:=Rat.mul_nonneg (by grind) s1
    constructor <;> grind
  obtain ⟨e5a,e5b⟩:=err5
  have v4a:0≤qv v4:=by grind
  have v4b:qv v4≤3 / 2:=by grind
  have p5:0≤qv v4*qv S:=Rat.mul_nonneg v4a s1
  have p6:qv v4*qv S≤qv v4:=by
    have:=Rat.mul_le_mul_of_nonneg_left s2 v4a
    grind
  obtain ⟨z5,g5,f5,n5,n5'⟩:=fmul_r 1022 f4 hS (by decide) (by rw [b1']; grind) (by rw [b1']; grind)
  rw [b1'] at n5 n5'
  refine ⟨z1,z2,z3,z4,z5,g1,g2,g3,g4,g5,f5,?_,?_⟩
  · unfold polyC; grind
  · unfold polyC; grind
end Go.Proofs.YtllaekopaglolaaGreat
end
/-
  The cubic mapping's index: it is told for all floats from 2^-24 to 2^24; a float that is four or more above another one has no lesser index.
-/
section
namespace Go.Proofs.YtllaekopaglolaaGreat
open Go.RowKit
open Ieee
set_option exponentiation.threshold 5000
theorem qv_PVe (s:Bool) (m e t:Nat) (D:Rat) (h:e+t=1074) (hD:D=((2^t:Nat):Rat)):qv (PV s m e)*D=(if s then (-1:Rat) else 1)*(m:Rat):=by
  have h1:=uw_mul (e+t) h
  rw [Nat.pow_add,Rat.natCast_mul,← hD] at h1
  have e1:qv (PV s m e)=(if s then (-1:Rat) else 1)*((m:Rat)*((2^e:Nat):Rat)*uw):=by
    unfold qv PV
    cases s
    · rw [if_neg (by decide),if_neg (by decide),Int.one_mul,Rat.intCast_natCast,Rat.natCast_mul]; grind
    · rw [if_pos rfl,if_pos rfl,Int.neg_one_mul,Rat.intCast_neg,Rat.intCast_natCast,Rat.natCast_mul]; grind
  rw [e1]
  cases s
  · simp only [Bool.false_eq_true,if_false]; grind
  · simp only [if_true]; grind
def cA:Int:=PV false 6176365203250966 1019
def cB:Int:=PV true 5404319552844595 1021
def cC:Int:=PV false 6433713753386423 1022
theorem cA_fv:FV 4595344385493786390 cA:=enB_fv false (m:=6176365203250966) (e:=1019) (by decide) (by decide) (by decide)
theorem cB_fv:FV 13826951575952896819 cB:=enB_fv true (m:=5404319552844595) (e:=1021) (by decide) (by decide) (by decide)
theorem cC_fv:FV 4609112532926033335 cC:=enB_fv false (m:=6433713753386423) (e:=1022) (by decide) (by decide) (by decide)
theorem cA_qv:qv cA=6176365203250966 / 36028797018963968:=by
  have h:=qv_PVe false 6176365203250966 1019 55 36028797018963968 (by decide) (by rw [show (2:Nat)^55=36028797018963968 from by decide]; rfl)
  simp only [Bool.false_eq_true,if_false] at h
  have:qv cA=qv (PV false 6176365203250966 1019):=rfl
  rw [this]
  have e:((6176365203250966:Nat):Rat)=6176365203250966:=rfl
  rw [e] at h
  grind
theorem cB_qv:qv cB = -(5404319552844595 / 9007199254740992):=by
  have h:=qv_PVe true 5404319552844595 1021 53 9007199254740992 (by decide) (by rw [show (2:Nat)^53=9007199254740992 from by decide]; rfl)
  simp only [if_true] at h
  have:qv cB=qv (PV true 5404319552844595 1021):=rfl
  rw [this]
  have e:((5404319552844595:Nat):Rat)=5404319552844595:=rfl
  rw [e] at h
  grind
theorem cC_qv:qv cC=6433713753386423 / 4503599627370496:=by
  have h:=qv_PVe false 6433713753386423 1022 52 4503599627370496 (by decide) (by rw [show (2:Nat)^52=4503599627370496 from by decide]; rfl)
  simp only [Bool.false_eq_true,if_false] at h
  have:qv cC=qv (PV false 6433713753386423 1022):=rfl
  rw [this]
  have e:((6433713753386423:Nat):Rat)=6433713753386423:=rfl
  rw [e] at h
  grind
attribute [irreducible] cA cB cC
def cubY (S:Int):Int:=rndI 1074 (rndI 0 (rndI 1074 (rndI 0 (rndI 1074 (cA*S)+cB)*S)+cC)*S)
theorem qv_m (m J:Nat) (hJ:J=1022):qv ((m:Int)*2^J)=(m:Rat) / 4503599627370496:=by
  have h:=qv_PVe false m J 52 4503599627370496 (by omega) (by rw [show (2:Nat)^52=4503599627370496 from by decide]; rfl)
  have e:PV false m J=(m:Int)*2^J:=by unfold PV; rw [pow_cast,Int.natCast_mul]; simp
  rw [e] at h
  simp only [Bool.false_eq_true,if_false] at h
  grind
theorem cub_at {xs m J:Nat} (hJ:J=1022) (hm:m≤4503599627370496) (hS:FV xs ((m:Int)*2^J)) :
    ∃ z1 z2 z3 z4 z5,fmul 4595344385493786390 xs=some z1∧fadd z1 13826951575952896819=some z2∧fmul z2 xs=some z3∧fadd z3 4609112532926033335=some z4∧fmul z4 xs=some z5 ∧
      FV z5 (cubY ((m:Int)*2^J))∧Near (qv (cubY ((m:Int)*2^J))) (polyC (qv cA) (qv cB) (qv cC) ((m:Rat) / 4503599627370496)) (23 / 8 / 9007199254740992):=by
  have hq:=qv_m m J hJ
  have m0:(0:Rat)≤(m:Rat):=Rat.natCast_nonneg
  have m1:(m:Rat)≤4503599627370496:=by
    have:=Rat.natCast_le_natCast.2 hm
    exact this
  have h:=cub_chain cA_fv cB_fv cC_fv hS (by rw [cA_qv]; grind) (by rw [cA_qv]; grind) (by rw [cB_qv]; grind) (by rw [cB_qv]; grind) (by rw [cC_qv]; grind) (by rw [cC_qv]; grind) (by rw [hq]; grind) (by rw [hq]; grind)
  rw [hq] at h
  exact h
theorem frac_fv (m J:Nat) (hJ:J=1022) (hm:m<4503599627370496):∃ x,FV x ((m:Int)*2^J):=by
  have e:(m:Int)*2^J=(if false then (-1:Int) else 1)*((m*2^((-52:Int)+1074+(0:Nat)).toNat:Nat):Int):=by
    rw [show ((-52:Int)+1074+(0:Nat)).toNat=J from by omega,pow_cast,Int.natCast_mul]; simp
  have hlt:((m:Int)*2^J).natAbs.log2<2090+0:=by
    rw [pow_cast,Int.natAbs_mul,Int.natAbs_natCast,Int.natAbs_natCast]
    by_cases h0:m=0
    · rw [h0,Nat.zero_mul]; decide
    · rw [log2_pow_mul _ _ (Nat.pos_of_ne_zero h0)]
      have:m.log2<53:=(Nat.log2_lt h0).2 (by omega)
      omega
  have:=fv_nearest false m (-52) 0 _ (by decide) e hlt
  rw [rndI_exact (m:Int) J (by omega)] at this
  exact ⟨_,this⟩
theorem cubY_near {m J:Nat} (hJ:J=1022) (hm:m<4503599627370496):Near (qv (cubY ((m:Int)*2^J))) (polyC (qv cA) (qv cB) (qv cC) ((m:Rat) / 4503599627370496)) (23 / 8 / 9007199254740992):=by
  obtain ⟨x,hx⟩:=frac_fv m J hJ hm
  obtain ⟨z1,z2,z3,z4,z5,_,_,_,_,_,_,h⟩:=cub_at hJ (by omega) hx
  exact h
theorem cubY_step {m n J:Nat} (hJ:J=1022) (h:m+4≤n) (hn:n<4503599627370496):cubY ((m:Int)*2^J)≤cubY ((n:Int)*2^J):=by
  obtain ⟨a1,a2⟩:=cubY_near hJ (show m<4503599627370496 by omega)
  obtain ⟨b1,b2⟩:=cubY_near hJ hn
  have m0:(0:Rat)≤(m:Rat):=Rat.natCast_nonneg
  have n1:(n:Rat)≤4503599627370496:=by
    have:=Rat.natCast_le_natCast.2 (show n≤4503599627370496 by omega)
    exact this
  have mn:(m:Rat)+4≤(n:Rat):=by
    have:=Rat.natCast_le_natCast.2 h
    rw [Rat.natCast_add] at this
    exact this
  have st:=poly_step (a:=qv cA) (b:=qv cB) (c:=qv cC) (s:=(m:Rat) / 4503599627370496) (t:=(n:Rat) / 4503599627370496) (by rw [cA_qv]; grind) (by grind) (by grind) (by rw [cA_qv,cB_qv]; grind) (by rw [cA_qv,cB_qv,cC_qv]; grind)
  refine le_of_qv ?_
  grind
end Go.Proofs.YtllaekopaglolaaGreat
end
