/-
  impl.QuantilesMerged: what a sketch says into which another one is merged.
-/
import Derived.Test.YtllaekopaglolaaGreatHBT
import Derived.Test.YtllaekopaglolaaGreatHBM
import Derived.Test.YtllaekopaglolaaGreatHBP
import Derived.Test.YtllaekopaglolaaGreatHBQ
import Derived.Test.YtllaekopaglolaaGreatHBF
import Derived.Test.YtllaekopaglolaaGreatHAJ
section
namespace Go.Proofs.YtllaekopaglolaaGreat
open Go.RowKit
theorem zU8 (xs ys:Items):absI xs≤absI (xs++ys)∧absI ys≤absI (xs++ys):=by
  have h:=zC2 xs ys
  have:=zBk xs
  have:=zBk ys
  omega
section
variable {kind mk:Int} {K:zAD kind} {of_:Nat→Option (Nat × Nat × Nat × Nat × Nat)} {acc:Nat→Option Nat} {idx:Nat→Nat→Nat→Option Int} {lower:Nat→Nat→Int→Option Nat} {value:Nat→Nat→Nat→Int→Option Nat}
theorem Holds.blocks {tP t:TypeId} {idx:Nat→Option Int} {most:Int} {g off mult mn mx:Nat} {B:Rat} {xs:Items} {SP SN:Nat→Prop} {pe pd pt pm pp pn:Nat} {w:World} (h:Holds K tP t idx most g off mult mn mx B xs SP SN pe pd pt pm pp pn w) :
    ∀ b,(b=pe∨b=pd∨b=pt∨b=pm∨SP b∨SN b)→b<w.heap.size:=by
  obtain ⟨c,s,k,l,lo,hi,hs,-⟩:=h
  intro b hb
  rcases hb with rfl | rfl | rfl | rfl | hb | hb
  · exact lt_of_block hs.be
  · exact lt_of_block hs.bd
  · exact lt_of_block hs.bt
  · exact lt_of_block hs.bm
  · exact K.lt most _ SP pp w hs.sp b hb
  · exact K.lt most _ SN pn w hs.sn b hb
set_option maxRecDepth 100000 in
set_option maxHeartbeats 1000000 in
theorem zKW (V:zDq K) {M:zBK mk of_ acc idx lower value} (E:zGS M) (most:Int) (a g off mult mn mx cp cr:Nat) (B:Rat) (ao ar:Option Addr) (xs ys:Items) (b0 b1 b2 b3 b4 b5:Nat) (w:World) (hk:zBg kind most=true) (hmk:of_ a=some (g,off,mult,mn,mx)) (hb:Bnd mn mx) (hi2:zC4 (idx off mult))
   (hg:zAa g=true) (ho:zAa off=true) (hl:LieQ w ao xs) (hl2:LieQ w ar ys) (hx:∀ q∈xs,zAU q) (hy:∀ q∈ys,zAU q) (x0:xs≠[]) (y0:ys≠[]) (hn:xs.length+ys.length≤400) (hB0:0≤B) (hB1:4*B≤1099511627776) (hB:qv (absI (xs++ys))≤B)
   (h0:w.cell? ⟨b0,0,none⟩=some (.int .i64 mk)) (h1:w.cell? ⟨b1,0,none⟩=some (.float .f64 a)) (h2:w.cell? ⟨b2,0,none⟩=some (.int .i64 kind)) (h3:w.cell? ⟨b3,0,none⟩=some (.int .i64 most)) (h4:w.cell? ⟨b4,0,none⟩=some (.slice ao xs.length cp)) (h5:w.cell? ⟨b5,0,none⟩=some (.slice ar ys.length cr)) :
    Calls Tryz.prog 22 #[.pointer (some ⟨b0,0,none⟩),.pointer (some ⟨b1,0,none⟩),.pointer (some ⟨b2,0,none⟩),.pointer (some ⟨b3,0,none⟩),.pointer (some ⟨b4,0,none⟩),.pointer (some ⟨b5,0,none⟩)] w fun e w'=>zJD K M most g off mult mn mx (4*B) (xs++ys) w e w':=by
  have B1:B≤1099511627776:=by grind
  obtain ⟨ab1,ab2⟩:=zU8 xs ys
  have H1:=zF8 (K:=K) M most a g off mult mn mx cp B ao xs w hk hmk hb hi2 hl hx (by omega) hB0 B1 (Rat.le_trans (zA9 ab1) hB)
  have H2:=Lib.hid fun w2 hl=>zF8 (K:=K) M most a g off mult mn mx cr B ar ys w2 hk hmk hb hi2 hl hy (by omega) hB0 B1 (Rat.le_trans (zA9 ab2) hB)
  have H3:=Lib.hid fun w2 pe pd pt pm pp pn re rd rt rm rp rn N SP SN RP RN h h2 lt ge=>zNO V E (mn:=mn) (mx:=mx) (w:=w2) (pe:=pe) (pd:=pd) (pt:=pt) (pm:=pm) (pp:=pp) (pn:=pn) (re:=re) (rd:=rd) (rt:=rt) (rm:=rm) (rp:=rp) (rn:=rn) (N:=N) (SP:=SP) (SN:=SN) (RP:=RP) (RN:=RN) h h2 lt ge hk hi2 hg ho hx hy x0 y0 hn hB1 hB
  have HL2:=Lib.hid hl2
  have l0:=World.block_lt_of_cell? w _ h0
  have l1:=World.block_lt_of_cell? w _ h1
  have l2:=World.block_lt_of_cell? w _ h2
  have l3:=World.block_lt_of_cell? w _ h3
  have l5:=World.block_lt_of_cell? w _ h5
  have LT:=Lib.hid (And.intro l0 (And.intro l1 (And.intro l2 (And.intro l3 l5))))
  clear hk hmk hb hi2 hg ho hl hl2 hx hy x0 y0 hB0 hB1 hB B1 ab1 ab2 l0 l1 l2 l3 l5
  go_enter Tryz.func22,Tryz.ntmps22
  go_wp2_with (first | (go_at_call 16; (with_reducible refine H1.mono ?_); rintro e w1 ⟨pe,pd,pt,pm,pp,pn,SP,SN,rfl,hh,hf,hb⟩; have h0:=(hb.cell LT.out.1).trans h0; have h1:=(hb.cell LT.out.2.1).trans h1; have h2:=(hb.cell LT.out.2.2.1).trans h2; have h3:=(hb.cell LT.out.2.2.2.1).trans h3; have h5:=(hb.cell LT.out.2.2.2.2).trans h5; have HX:=H2.out w1 (HL2.out.later hb); have HH:=Lib.hid hh; have HF:=Lib.hid hf; have HB:=Lib.hid hb; clear hh hf hb H1) | (go_at_call 16; (with_reducible refine HX.mono ?_); rintro e w2 ⟨re,rd,rt,rm,rp,rn,RP,RN,rfl,hh2,hf2,hb2⟩; have HF12:=Lib.hid (zCP hb2); have HM:=H3.out w2 pe pd pt pm pp pn re rd rt rm rp rn w1.heap.size SP SN RP RN (HH.out.fr HF12.out (fun _ _ h=>h)) hh2 HH.out.blocks hf2; have HF2:=Lib.hid hf2; have HB2:=Lib.hid hb2; clear hh2 hf2 hb2 HX) | (go_at_call 23; (with_reducible refine HM.mono ?_); rintro e w3 ⟨rfl,SP',SN',hh3,hf3,hS1,hS2⟩; have HH3:=Lib.hid hh3; have HF3:=Lib.hid hf3; have HS1:=Lib.hid hS1; have HS2:=Lib.hid hS2; clear hh3 hf3 hS1 hS2 HM))
  go_quiet (fail)
  go_wp2
  go_ret2
  have z1:=HB.out.size
  have z2:=HB2.out.size
  obtain ⟨g1,g2,g3,g4,g5,g6⟩:=HF.out
  obtain ⟨r1,r2,r3,r4,r5,r6⟩:=HF2.out
  refine ⟨pe,pd,pt,pm,pp,pn,SP',SN',rfl,HH3.out.fr ((Fr.refl (fun _=>False) w3).drewN nq) (fun _ _ h=>h),⟨g1,g2,g3,g4,fun b hb=>?_,fun b hb=>?_⟩,(HB.out.trans (HB2.out.mono z1)).trans ((HF3.out.drewN nq).below (fun b hb=>?_) (by omega))⟩
  · rcases HS1.out b hb with h | h
    · exact g5 b h
    · omega
  · rcases HS2.out b hb with h | h
    · exact g6 b h
    · omega
  · rcases hb with h | h | (h | h) | h | h
    · omega
    · omega
    · exact g5 b h
    · exact g6 b h
    · have:=r5 b h; omega
    · have:=r6 b h; omega
end
end Go.Proofs.YtllaekopaglolaaGreat
end
/-
  impl.QuantilesMerged. (Printed by gen_quantm.py.)
-/
section
namespace Go.Proofs.YtllaekopaglolaaGreat
open Go.RowKit
section
variable {kind mk:Int} {K:zAD kind} {of_:Nat→Option (Nat × Nat × Nat × Nat × Nat)} {acc:Nat→Option Nat} {idx:Nat→Nat→Nat→Option Int} {lower:Nat→Nat→Int→Option Nat} {value:Nat→Nat→Nat→Int→Option Nat}
set_option maxRecDepth 100000 in
set_option maxHeartbeats 1000000 in
theorem zO8 (Q:zCJ K) (V:zDq K) {M:zBK mk of_ acc idx lower value} (E:zGS M) (most:Int) (a g off mult mn mx cp cl cr:Nat) (B:Rat) (ao al ar:Option Addr) (xs ys:Items) (qs outs:List Nat) (w:World) (hk:zBg kind most=true) (hmk:of_ a=some (g,off,mult,mn,mx)) (hb:Bnd mn mx) (hi2:zC4 (idx off mult))
   (hg:zAa g=true) (ho:zAa off=true) (hl:LieQ w al xs) (hl2:LieQ w ar ys) (hx:∀ q∈xs,zAU q) (hy:∀ q∈ys,zAU q) (x0:xs≠[]) (y0:ys≠[]) (hn:xs.length+ys.length≤400) (hB0:0≤B) (hB1:4*B≤1099511627776) (hB:qv (absI (xs++ys))≤B)
   (hq:LieN w ao qs) (hqn:qs.length≤1000000) (hlen:outs.length=qs.length)
   (hp:Few kind most (zAP (idx off mult) (xs++ys))) (hng:Few kind most (zAQ (idx off mult) (xs++ys))) (hz:zAd (xs++ys)<1000000) (hcc:0<zAd (xs++ys)+tot (zAP (idx off mult) (xs++ys))+tot (zAQ (idx off mult) (xs++ys)))
   (hA:∀ k,(hk:k<qs.length)→zKJ (value g off mult) (zAP (idx off mult) (xs++ys)) (zAQ (idx off mult) (xs++ys)) (zAd (xs++ys)) qs[k] (outs.getD k 0)) :
    Calls Tryz.prog 11 #[.int .i64 mk,.float .f64 a,.int .i64 kind,.int .i64 most,.slice al xs.length cl,.slice ar ys.length cr,.slice ao qs.length cp] w fun e w'=>zJH (4*B) (xs++ys) outs w e w':=by
  have hmf:∀ (fn:Fn) (first cap:Array Value) (w:World),(Instr.makeFunc fn first cap).run Tryz.prog w = .ok (.func fn first cap) w:=fun _ _ _ _=>rfl
  have f0:=zBH (w:=w) (o:=.cells #[.int .i64 mk] 3) rfl
  have s0:=zA1 (w:=w) (o:=.cells #[.int .i64 mk] 3) rfl
  have b0:Below w.heap.size w (w.alloc (.cells #[.int .i64 mk] 3)):=(Below.refl _ w).alloc (Nat.le_refl _) _
  obtain ⟨W0,hW0⟩:∃ W,W=w.alloc (.cells #[.int .i64 mk] 3):=⟨_,rfl⟩
  rw [← hW0] at f0 s0 b0
  have f1:=zBH (w:=W0) (o:=.cells #[.float .f64 a] 29) s0
  have s1:=zA1 (w:=W0) (o:=.cells #[.float .f64 a] 29) s0
  replace f0:=zAI (o:=.cells #[.float .f64 a] 29) f0
  have b1:Below w.heap.size w (W0.alloc (.cells #[.float .f64 a] 29)):=b0.alloc (by omega) _
  obtain ⟨W1,hW1⟩:∃ W,W=W0.alloc (.cells #[.float .f64 a] 29):=⟨_,rfl⟩
  rw [← hW1] at f0 f1 s1 b1
  have f2:=zBH (w:=W1) (o:=.cells #[.int .i64 kind] 3) s1
  have s2:=zA1 (w:=W1) (o:=.cells #[.int .i64 kind] 3) s1
  replace f0:=zAI (o:=.cells #[.int .i64 kind] 3) f0
  replace f1:=zAI (o:=.cells #[.int .i64 kind] 3) f1
  have b2:Below w.heap.size w (W1.alloc (.cells #[.int .i64 kind] 3)):=b1.alloc (by omega) _
  obtain ⟨W2,hW2⟩:∃ W,W=W1.alloc (.cells #[.int .i64 kind] 3):=⟨_,rfl⟩
  rw [← hW2] at f0 f1 f2 s2 b2
  have f3:=zBH (w:=W2) (o:=.cells #[.int .i64 most] 3) s2
  have s3:=zA1 (w:=W2) (o:=.cells #[.int .i64 most] 3) s2
  replace f0:=zAI (o:=.cells #[.int .i64 most] 3) f0
  replace f1:=zAI (o:=.cells #[.int .i64 most] 3) f1
  replace f2:=zAI (o:=.cells #[.int .i64 most] 3) f2
  have b3:Below w.heap.size w (W2.alloc (.cells #[.int .i64 most] 3)):=b2.alloc (by omega) _
  obtain ⟨W3,hW3⟩:∃ W,W=W2.alloc (.cells #[.int .i64 most] 3):=⟨_,rfl⟩
  rw [← hW3] at f0 f1 f2 f3 s3 b3
  have f4:=zBH (w:=W3) (o:=.cells #[.slice al xs.length cl] 22) s3
  have s4:=zA1 (w:=W3) (o:=.cells #[.slice al xs.length cl] 22) s3
  replace f0:=zAI (o:=.cells #[.slice al xs.length cl] 22) f0
  replace f1:=zAI (o:=.cells #[.slice al xs.length cl] 22) f1
  replace f2:=zAI (o:=.cells #[.slice al xs.length cl] 22) f2
  replace f3:=zAI (o:=.cells #[.slice al xs.length cl] 22) f3
  have b4:Below w.heap.size w (W3.alloc (.cells #[.slice al xs.length cl] 22)):=b3.alloc (by omega) _
  obtain ⟨W4,hW4⟩:∃ W,W=W3.alloc (.cells #[.slice al xs.length cl] 22):=⟨_,rfl⟩
  rw [← hW4] at f0 f1 f2 f3 f4 s4 b4
  have f5:=zBH (w:=W4) (o:=.cells #[.slice ar ys.length cr] 22) s4
  have s5:=zA1 (w:=W4) (o:=.cells #[.slice ar ys.length cr] 22) s4
  replace f0:=zAI (o:=.cells #[.slice ar ys.length cr] 22) f0
  replace f1:=zAI (o:=.cells #[.slice ar ys.length cr] 22) f1
  replace f2:=zAI (o:=.cells #[.slice ar ys.length cr] 22) f2
  replace f3:=zAI (o:=.cells #[.slice ar ys.length cr] 22) f3
  replace f4:=zAI (o:=.cells #[.slice ar ys.length cr] 22) f4
  have b5:Below w.heap.size w (W4.alloc (.cells #[.slice ar ys.length cr] 22)):=b4.alloc (by omega) _
  obtain ⟨W5,hW5⟩:∃ W,W=W4.alloc (.cells #[.slice ar ys.length cr] 22):=⟨_,rfl⟩
  rw [← hW5] at f0 f1 f2 f3 f4 f5 s5 b5
  have lq:LieN W5 ao qs:=by
    rcases hq with h0 | ⟨gq,oq,e,hc⟩
    · exact .inl h0
    · exact .inr ⟨gq,oq,e,fun i hi=>(b5.cell (World.block_lt_of_cell? w _ (hc i hi))).trans (hc i hi)⟩
  have HF:∀ w',Below W5.heap.size W5 w'→Calls Tryz.prog 22 #[.pointer (some ⟨w.heap.size,0,none⟩),.pointer (some ⟨w.heap.size+1,0,none⟩),.pointer (some ⟨w.heap.size+1+1,0,none⟩),.pointer (some ⟨w.heap.size+1+1+1,0,none⟩),.pointer (some ⟨w.heap.size+1+1+1+1,0,none⟩),.pointer (some ⟨w.heap.size+1+1+1+1+1,0,none⟩)] w' fun e w''=>zJD K M most g off mult mn mx (4*B) (xs++ys) w' e w'':=fun w' hbw =>
    zKW V E most a g off mult mn mx cl cr B al ar xs ys _ _ _ _ _ _ w' hk hmk hb hi2 hg ho ((hl.later b5).later hbw) ((hl2.later b5).later hbw) hx hy x0 y0 hn hB0 hB1 hB (cell_of_one ((hbw.5 _ (lt_of_block f0)).trans f0)) (cell_of_one ((hbw.5 _ (lt_of_block f1)).trans f1)) (cell_of_one ((hbw.5 _ (lt_of_block f2)).trans f2)) (cell_of_one ((hbw.5 _ (lt_of_block f3)).trans f3)) (cell_of_one ((hbw.5 _ (lt_of_block f4)).trans f4)) (cell_of_one ((hbw.5 _ (lt_of_block f5)).trans f5))
  have H:=zTO Q M most g off mult mn mx cp (4*B) (xs++ys) 22 #[.pointer (some ⟨w.heap.size,0,none⟩),.pointer (some ⟨w.heap.size+1,0,none⟩),.pointer (some ⟨w.heap.size+1+1,0,none⟩),.pointer (some ⟨w.heap.size+1+1+1,0,none⟩),.pointer (some ⟨w.heap.size+1+1+1+1,0,none⟩),.pointer (some ⟨w.heap.size+1+1+1+1+1,0,none⟩)] ao qs outs W5
    (fun args w=>zAf Tryz.func22 (by kernel_rfl) rfl args w) HF lq hqn hlen hp hng hz hcc hA
  have HB4:=Lib.hid b5
  clear HF f0 f1 f2 f3 f4 f5 s0 s1 s2 s3 s4 s5 b0 b1 b2 b3 b4 b5 lq hk hmk hb hi2 hg ho hl hl2 hx hy x0 y0 hB0 hB1 hB hq hp hng hz hcc hA hlen hn
  go_enter Tryz.func11,Tryz.ntmps11
  go_wp2_with fail
  rw [← hW0,← hW1,← hW2,← hW3,← hW4,← hW5]
  refine H.mono ?_
  clear H hW0 hW1 hW2 hW3 hW4 hW5
  rintro e w' ⟨c,s,k,l,lo,hi,x,gv,rfl,i1,i2,hrow,hbl⟩
  have HI:=Lib.hid (And.intro i1 (And.intro i2 hrow))
  have HBL:=Lib.hid hbl
  clear i1 i2 hrow hbl
  go_wp2
  refine bodyPost_ret (v:=.tuple #[.slice (some ⟨gv,0,none⟩) outs.length outs.length,.float .f64 c,.float .f64 x,.float .f64 lo,.float .f64 hi,.bool true]) (by simp only [results,Tryz.results11]; simp [go_sem]) rfl ?_
  exact ⟨c,s,k,l,lo,hi,x,gv,rfl,HI.out.1,HI.out.2.1,HI.out.2.2,HB4.out.trans (HBL.out.mono HB4.out.size)⟩
end
end Go.Proofs.YtllaekopaglolaaGreat
end
/-
  laws.FnQuantilesMerged: it is true,whatever the input.
-/
section
namespace Go.Proofs.YtllaekopaglolaaGreat
open Go.RowKit
set_option exponentiation.threshold 5000
def zTc (mk pc st:Int) (xs ys:Items) (qs:List Nat):Prop :=
  ∃ a outs,fdiv (floatOfInt .f64 pc) 4636737291354636288=some a ∧
    (∀ W al ar aq cl cr cq,LieQ W al xs→LieQ W ar ys→LieN W aq qs→Calls Tryz.prog 11 #[.int .i64 mk,.float .f64 a,.int .i64 st,.int .i64 100,.slice al xs.length cl,.slice ar ys.length cr,.slice aq qs.length cq] W fun e w'=>zJH (4*qv (absI (xs++ys))) (xs++ys) outs W e w') ∧
    ∀ c s k l lo hi y,zGX (4*qv (absI (xs++ys))) (xs++ys) c s k l lo hi→fadd s k=some y→∀ ax aq cx cq gv W,LieR W ax (fi (xs++ys))→LieN W aq qs→FRow W gv outs.length (fun i=>zBj lo hi (outs.getD i 0)) →
      Calls Tryz.prog 10 #[.float .f64 a,.slice ax (xs++ys).length cx,.slice aq qs.length cq,.slice (some ⟨gv,0,none⟩) outs.length outs.length,.float .f64 c,.float .f64 y,.float .f64 lo,.float .f64 hi] W fun e w'=>e = .returned (.bool true)∧Below W.heap.size W w'
set_option maxRecDepth 100000 in
set_option maxHeartbeats 2000000 in
theorem zUl (mk pc st:Int) (al ar aq:Option Addr) (cl cr cq:Nat) (ps rs:List (Nat × Nat)) (qs:List Nat) (w:World) (hl:LieR w al ps) (hl2:LieR w ar rs) (hq:LieN w aq qs) (hb:∀ p∈ps,p.1<18446744073709551616∧p.2<18446744073709551616) (hb2:∀ p∈rs,p.1<18446744073709551616∧p.2<18446744073709551616)
   (HG:∀ xs ys,ps=fi xs→rs=fi ys→(∀ q∈xs,zAU q)→(∀ q∈ys,zAU q)→0<xs.length→xs.length≤60→0<ys.length→ys.length≤60→zXV mk pc st qs→zTc mk pc st xs ys qs) :
    Calls Tryz.prog 4 #[.int .i64 mk,.int .i64 pc,.int .i64 st,.slice al ps.length cl,.slice ar rs.length cr,.slice aq qs.length cq] w fun e w'=>zOn w e w':=by
  by_cases hz:2147483647<ps.length
  · have hz1:(2147483647:Int)<ps.length:=by omega
    clear hl hl2 hq hb hb2 HG hz
    go_enter Tryz.func4,Tryz.ntmps4
    go_wp2
    go_ret
    exact ⟨rfl,Below.refl _ _⟩
  have hz1:(ps.length:Int)≤2147483647:=by omega
  by_cases hz2:2147483647<rs.length
  · have hz3:(2147483647:Int)<rs.length:=by omega
    clear hl hl2 hq hb hb2 HG hz hz2
    go_enter Tryz.func4,Tryz.ntmps4
    go_wp2
    go_ret
    exact ⟨rfl,Below.refl _ _⟩
  have hz3:(rs.length:Int)≤2147483647:=by omega
  by_cases hy:2147483647<qs.length
  · have hy1:(2147483647:Int)<qs.length:=by omega
    clear hl hl2 hq hb hb2 HG hz hz2 hy
    go_enter Tryz.func4,Tryz.ntmps4
    go_wp2
    go_ret
    exact ⟨rfl,Below.refl _ _⟩
  have hy1:(qs.length:Int)≤2147483647:=by omega
  have HB:=zJm al cl ps w hl (by omega)
  have HBb:=Lib.hid fun w' h=>zJm ar cr rs w' h (by omega)
  have HFN:=fun w' h=>zUp mk pc st aq cq qs w' h (by omega)
  have HIT:=fun a c w' h=>zIH a c ps w' h (by omega)
  have HIT2:=fun a c w' h=>zIH a c rs w' h (by omega)
  have HWK:Hid (∀ W,Calls Tryz.prog 8 #[] W fun e w'=>zOn W e w'):=fun W=>zRG W
  have HL:=Lib.hid hl
  have HLb:=Lib.hid hl2
  have HQ:=Lib.hid hq
  have HBI:=Lib.hid hb
  have HBI2:=Lib.hid hb2
  have HGG:=Lib.hid HG
  have HFF:=Lib.hid HFN
  have HII:=Lib.hid HIT
  have HII2:=Lib.hid HIT2
  clear hl hl2 hq hb hb2 HG hz hz2 hy HFN HIT HIT2
  go_enter Tryz.func4,Tryz.ntmps4
  go_wp2_with fail
  (with_reducible refine HB.mono ?_)
  clear HB
  rintro e w0 ⟨a1,c1,rfl,hown,hb0⟩
  have hlie0:=(zBR hown.1).2.2.2
  have HC1:=Lib.hid (zBR hown.1).2.1
  have HL0:=Lib.hid hlie0
  have HB0:=Lib.hid hb0
  have HX:=HBb.out w0 (HLb.out.later hb0)
  clear hown hlie0 hb0 HBb
  go_wp2_with fail
  (with_reducible refine HX.mono ?_)
  clear HX
  rintro e w1 ⟨a2,c2,rfl,hown2,hb1⟩
  have hlie2:=(zBR hown2.1).2.2.2
  have HL1:=Lib.hid (HL0.out.later hb1)
  have HL2:=Lib.hid hlie2
  have HB1:=Lib.hid (HB0.out.trans (hb1.mono HB0.out.size))
  have HQ1:=Lib.hid (zCl HQ.out HB1.out)
  clear hown2 hb1 hlie2 HL0 HB0
  go_wp2_with fail
  (with_reducible refine (HFF.out w1 HQ1.out).mono ?_)
  clear HFF
  rintro e w1' ⟨⟨b,rfl,hfine⟩,rfl⟩
  cases b
  · clear hfine
    go_wp2_with fail
    refine (HWK.out _).mono ?_
    rintro e w2 ⟨rfl,hb2⟩
    have HB2:=Lib.hid (HB1.out.trans (hb2.mono HB1.out.size)); clear hb2
    go_wp2
    go_ret
    exact ⟨rfl,HB2.out⟩
  have HF:=Lib.hid (hfine rfl)
  clear hfine
  go_wp2_with fail
  (with_reducible refine (HII.out a1 c1 w1 HL1.out).mono ?_)
  clear HII
  rintro e w2 ⟨rfl,hb2⟩
  have HB2:=Lib.hid (HB1.out.trans (hb2.mono HB1.out.size))
  cases hit:zDu ps
  · clear hit hb2
    go_wp2_with fail
    refine (HWK.out _).mono ?_
    rintro e w3 ⟨rfl,hb3⟩
    have HB3:=Lib.hid (HB2.out.trans (hb3.mono HB2.out.size)); clear hb3
    go_wp2
    go_ret
    exact ⟨rfl,HB3.out⟩
  have HL12:=Lib.hid (HL1.out.later hb2)
  have HL22:=Lib.hid (HL2.out.later hb2)
  clear hb2 HL1 HL2 HQ1
  go_wp2_with fail
  (with_reducible refine (HII2.out a2 c2 w2 HL22.out).mono ?_)
  clear HII2
  rintro e w2b ⟨rfl,hb2b⟩
  have HB2b:=Lib.hid (HB2.out.trans (hb2b.mono HB2.out.size))
  cases hit2:zDu rs
  · clear hit hit2 hb2b
    go_wp2_with fail
    refine (HWK.out _).mono ?_
    rintro e w3 ⟨rfl,hb3⟩
    have HB3:=Lib.hid (HB2b.out.trans (hb3.mono HB2b.out.size)); clear hb3
    go_wp2
    go_ret
    exact ⟨rfl,HB3.out⟩
  obtain ⟨xs,hxs,hok,hx0,hx60⟩:=zOP hit HBI.out
  obtain ⟨ys,hys,hok2,hy0,hy60⟩:=zOP hit2 HBI2.out
  obtain ⟨a,outs,ha,hQ,hR⟩:=HGG.out xs ys hxs hys hok hok2 hx0 hx60 hy0 hy60 HF.out
  have hpl:ps.length=xs.length:=by rw [hxs,zAK]
  have hrl:rs.length=ys.length:=by rw [hys,zAK]
  have HLQ:Hid (LieQ w2b al xs):=Lib.hid (zST (by rw [← hxs]; exact HL.out.later HB2b.out))
  have HLQ2:Hid (LieQ w2b ar ys):=Lib.hid (zST (by rw [← hys]; exact HLb.out.later HB2b.out))
  have HLX:Hid (LieR w2b a1 ps):=Lib.hid (HL12.out.later hb2b)
  have HLY:Hid (LieR w2b a2 rs):=Lib.hid (HL22.out.later hb2b)
  have HQ2:=Lib.hid (zCl HQ.out HB2b.out)
  have HQC:=Lib.hid (hQ w2b al ar aq cl cr cq HLQ.out HLQ2.out HQ2.out)
  have HRR:=Lib.hid hR
  have hfi:fi (xs++ys)=ps++rs:=by rw [hxs,hys]; exact zDU xs ys
  have hlen:(xs++ys).length=(ps++rs).length:=by rw [← hfi,zAK]
  have q1:=fun w:World=>run_float_arith (P:=Tryz.prog) w .quo 29 .f64 _ _ _ ha
  rw [← hpl,← hrl] at HQC
  rw [hlen,hfi] at HRR
  have HSZ:=Lib.hid (show ps.length+rs.length<1000000000 by omega)
  clear hit hit2 hb2b hxs hys hok hok2 hx0 hx60 hy0 hy60 ha hQ hR hpl hrl hfi hlen HGG HBI HBI2 HL12 HL22
  go_wp2_with fail
  (with_reducible refine HQC.out.mono ?_)
  clear HQC
  rintro e w3 ⟨c,s,k,l,lo,hi,y,gv,rfl,hst,hy,hrow,hb3⟩
  have HB3:=Lib.hid (HB2b.out.trans (hb3.mono HB2b.out.size))
  have hsl:∀ w:World,(Instr.slice 24 (.slice a1 ps.length c1) none (some (.int .i64 (ps.length:Int))) (some (.int .i64 (ps.length:Int)))).run Tryz.prog w = .ok (.slice a1 ps.length ps.length) w:=fun w=>zGw 24 38 Tryz.underlying24 a1 ps.length c1 ps.length _ rfl HC1.out (z:=2) (fun w=>by kernel_rfl) w
  have HRC:=Lib.hid (fun ax cx W (hb:Below w3.heap.size w3 W) hlx=>HRR.out c s k l lo hi y hst hy ax aq cx cq gv W hlx (zCl (zCl HQ2.out hb3) hb) (hrow.fr (zCP hb) (fun h=>h)))
  have HX3:=Lib.hid (HLX.out.later hb3)
  have HY3:=Lib.hid (HLY.out.later hb3)
  clear HRR hst hy hrow hb3 q1 HLX HLY
  go_wp2_with (at_builtin; refine zEh w3 (by rfl) _ _ 24 38 (.agg #[.float .f64 0,.float .f64 0]) rfl Tryz.underlying24 Tryz.infoSI a1 a2 ps.length rs.length c2 ps rs rfl rfl rfl rfl HX3.out HY3.out HSZ.out ?_; intro a6 c6 w6 hl6 hb6; have HL6:=Lib.hid hl6; have HB6:=Lib.hid hb6; have HRX:=HRC.out a6 c6 w6 hb6 hl6; rw [List.length_append] at HRX; clear hl6 hb6)
  (with_reducible refine HRX.mono ?_)
  clear HRX
  rintro e w4 ⟨rfl,hb4⟩
  have HB36:=Lib.hid (HB3.out.trans (HB6.out.mono HB3.out.size))
  have HB4:=Lib.hid (HB36.out.trans (hb4.mono HB36.out.size)); clear hb4
  go_wp2_with fail
  refine (HWK.out _).mono ?_
  rintro e w5 ⟨rfl,hb5⟩
  have HB5:=Lib.hid (HB4.out.trans (hb5.mono HB4.out.size)); clear hb5
  go_wp2
  go_ret
  exact ⟨rfl,HB5.out⟩
end Go.Proofs.YtllaekopaglolaaGreat
end
/-
  What a chunk of looks tells at an index within it.
-/
section
namespace Go.Proofs.YtllaekopaglolaaGreat
theorem zAA {lower:Int→Option Nat} {look:Nat→Int→Nat→Bool} {rb p n dat:Nat} {a i:Int} (h:zAB lower look rb p n dat a=true) (h1:a≤i:=by omega) (h2:i<a+n:=by omega):zHx lower look rb p i:=by
  have:=zTD h (i - a).toNat (by omega)
  rwa [show a+((i - a).toNat:Int)=i from by omega] at this
end Go.Proofs.YtllaekopaglolaaGreat
end
