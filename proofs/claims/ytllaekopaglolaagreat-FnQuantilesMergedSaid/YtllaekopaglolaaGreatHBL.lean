/-
  impl.asked's closure: a sketch is made and asked.
-/
import Derived.Test.YtllaekopaglolaaGreatHBK
import Derived.Shelf.Abstract
section
namespace Go.Proofs.YtllaekopaglolaaGreat
open Go.RowKit
def zKJ (value:Int→Option Nat) (ps ns:Bins) (z q out:Nat):Prop :=
  flt q 0=false∧fgt q 4607182418800017408=false∧fsub (nf (z+tot ps+tot ns)) 4607182418800017408=some (nf (z+tot ps+tot ns - 1))∧∃ r,fmul q (nf (z+tot ps+tot ns - 1))=some r ∧
    ((flt r (nf (tot ns))=true∧∃ r1 r' k V,fsub (nf (tot ns)) 4607182418800017408=some r1∧fsub r1 r=some r'∧zEY (cntB ns) (tot ns) r' k∧value k=some V∧out=negF V) ∨
     (flt r (nf (tot ns))=false∧flt r (nf (z+tot ns))=true∧out=0) ∨
     (flt r (nf (tot ns))=false∧flt r (nf (z+tot ns))=false∧∃ r1 r' k,fsub r (nf z)=some r1∧fsub r1 (nf (tot ns))=some r'∧zEY (cntB ps) (tot ps) r' k∧value k=some out))
section
variable {kind mk:Int} {K:zAD kind} {of_:Nat→Option (Nat × Nat × Nat × Nat × Nat)} {acc:Nat→Option Nat} {idx:Nat→Nat→Nat→Option Int} {lower:Nat→Nat→Int→Option Nat} {value:Nat→Nat→Nat→Int→Option Nat}
variable {most:Int} {g off mult mn mx:Nat} {ps ns:Bins} {z:Nat} {SP SN:Nat→Prop} {pd pm pp pn:Nat} {w:World}
theorem zVd (Q:zCJ K) (M:zBK mk of_ acc idx lower value) (q out:Nat) (h:Dd K M.tP M.t most g off mult mn mx ps ns z SP SN pd pm pp pn w) (hp:Few kind most ps) (hn:Few kind most ns) (hz:z<1000000) (hc:0<z+tot ps+tot ns) (ha:zKJ (value g off mult) ps ns z q out) :
    Calls Tryz.prog 65 #[.pointer (some ⟨pd,0,none⟩),.float .f64 q] w fun e w'=>zRA K M.tP M.t most g off mult mn mx ps ns z SP SN pd pm pp pn out w e w':=by
  obtain ⟨q0,q1,ho,r,hr,h1 | h1 | h1⟩:=ha
  · obtain ⟨a,r1,r',k,V,b,c,d,e,rfl⟩:=h1
    exact zTj Q M q r r1 r' V k h hp hn hz hc q0 q1 hr a b c ho d e
  · obtain ⟨a,b,rfl⟩:=h1
    exact zTh Q q r h hp hn hz hc q0 q1 hr a b ho
  · obtain ⟨a,b,r1,r',k,c,d,e,f⟩:=h1
    exact zTi Q M q r r1 r' out k h hp hn hz hc q0 q1 hr a b c d ho e f
end
theorem zUV {w:World} {g off:Nat} {qs:List Nat} (h:∀ i,(hi:i<qs.length)→w.cell? ⟨g,off+i,none⟩=some (.float .f64 qs[i])):∀ j u,(qs.map (Value.float .f64))[j]?=some u→w.cell? ((⟨g,off,none⟩:Addr).add j)=some u:=by
  intro j u hj
  have hadd:(⟨g,off,none⟩:Addr).add j=⟨g,off+j,none⟩:=by unfold Addr.add; split <;> simp_all
  rw [List.getElem?_map] at hj
  obtain ⟨x,hx,rfl⟩:=Option.map_eq_some_iff.1 hj
  obtain ⟨hl,rfl⟩:=List.getElem?_eq_some_iff.1 hx
  rw [hadd]
  exact h j hl
theorem zM3 {w:World} {ao:Option Addr} {n' c n:Nat} {qs:List Nat} (h:w.ownsRow 0 29 1 (.slice ao n' c) n (qs.map (Value.float .f64))):LieN w ao qs:=by
  by_cases h0:qs=[]
  · exact .inl h0
  have hp:0<qs.length:=List.length_pos_iff.2 h0
  have hlen:=h.1
  rcases h.2 with ⟨h1,h2⟩ | ⟨g,cap,cur,h1,_,hh,hc,hm,_⟩
  · rw [List.length_map] at hlen; omega
  · cases h1
    refine .inr ⟨g,0,rfl,fun i hi=>?_⟩
    have hc:=h.cells (g:=g) rfl i (.float .f64 qs[i]) (by simp [List.getElem?_eq_getElem hi])
    have hadd:(⟨g,0,none⟩:Addr).add i=⟨g,0+i,none⟩:=by unfold Addr.add; split <;> simp_all
    rwa [hadd] at hc
theorem zGn {w:World} {ops:Array Oper} {rest:List Oper} {o:Oper} {a:Act} {Q:Exit→Act→World→Prop} (hg:o.guard=none) (s x:Operand)
    (ho:o.op = .call { callee:=.builtin .append,args:=#[s,x],argTypes:=#[23,23] }) (ao:Option Addr) (cp:Nat) (qs:List Nat)
    (hs:a.eval s = .slice (some ⟨w.heap.size,0,none⟩) 0 0) (hx:a.eval x = .slice ao qs.length cp) (hl:LieN (w.alloc (.cells #[] 29)) ao qs) (hn:qs.length≤1000000)
    (hK:∀ ao' cp' w',LieN w' ao' qs→(∀ g o,ao'=some ⟨g,o,none⟩→w.heap.size≤g)→Below w.heap.size w w'→wpList Tryz.prog ops Q rest (a.put o.dst (.slice ao' qs.length cp')) w') :
    wpList Tryz.prog ops Q (o :: rest) a (w.alloc (.cells #[] 29)):=by
  obtain ⟨i0,hi,hz0,hz1,hz2⟩:=info_parts Tryz.infoF64
  have hb0:Below w.heap.size w (w.alloc (.cells #[] 29)):=(Below.refl _ w).alloc (Nat.le_refl _) _
  rcases hl with h0 | ⟨g,off,rfl,hc⟩
  · subst h0
    have hr:=zB9 (P:=Tryz.prog) 23 o.type 29 Tryz.underlying23 i0 hi (some ⟨w.heap.size,0,none⟩) 0 0 ao cp (w.alloc (.cells #[] 29)) (Nat.le_refl _)
    refine wpList_plain hg fun K hK'=>?_
    unfold Oper.wp execOp
    simp only [ho,resolve,invoke,builtin,Sem.run_bind,Sem.run_pure,Result.andThen_ok,List.map_toArray,List.map_cons,List.map_nil,hs,hx]
    rw [show (([]:List Nat).length)=0 from rfl,hr]
    exact hK' _ _ (hK (some ⟨w.heap.size,0,none⟩) 0 _ (.inl rfl) (fun g o e=>by cases e; exact Nat.le_refl _) hb0)
  · by_cases hne:qs=[]
    · subst hne
      have hr:=zB9 (P:=Tryz.prog) 23 o.type 29 Tryz.underlying23 i0 hi (some ⟨w.heap.size,0,none⟩) 0 0 (some ⟨g,off,none⟩) cp (w.alloc (.cells #[] 29)) (Nat.le_refl _)
      refine wpList_plain hg fun K hK'=>?_
      unfold Oper.wp execOp
      simp only [ho,resolve,invoke,builtin,Sem.run_bind,Sem.run_pure,Result.andThen_ok,List.map_toArray,List.map_cons,List.map_nil,hs,hx]
      rw [show (([]:List Nat).length)=0 from rfl,hr]
      exact hK' _ _ (hK (some ⟨w.heap.size,0,none⟩) 0 _ (.inl rfl) (fun g o e=>by cases e; exact Nat.le_refl _) hb0)
    · refine zAi _ hg s x 23 ho 29 i0 (.float .f64 0) 1 8 Tryz.underlying23 hi hz0 hz1 hz2 rfl (by decide) (.slice (some ⟨w.heap.size,0,none⟩) 0 0) 0 [] hs (World.ownsRow_made w #[] 0 (Nat.zero_le _) (by decide) rfl) ⟨g,off,none⟩ qs.length cp (qs.map (Value.float .f64)) hx (by simp) (zUV hc) (fun u hu=>by simp at hu; obtain ⟨x,_,rfl⟩:=hu; rfl) (by unfold maxLen; omega) (by omega) ?_
      intro v' w1 hown hgrow hblk
      rw [Nat.zero_add,List.nil_append] at hown
      obtain ⟨ao',n1,cp1,hv1⟩:=zAR hown
      subst hv1
      have hnl:=zAo hown
      subst hnl
      refine hK ao' cp1 w1 (zM3 hown) (fun g' o' e=>?_) ?_
      · subst e
        have hg9:(Value.slice (some ⟨g',o',none⟩) qs.length cp1).ownBlock=some g':=by
          rcases hown.2 with ⟨h1,h2⟩ | ⟨g2,cap,cur,h1,_⟩
          · cases h1
          · cases h1; rfl
        rw [hg9] at hblk
        rcases hblk with h | h
        · cases h; exact Nat.le_refl _
        · have h9:=Option.some.inj h
          have:g'=(w.alloc (.cells #[] 29)).heap.size:=h9
          rw [World.size_alloc] at this; omega
      · exact ⟨hgrow.os,hgrow.tape,hgrow.output,by have:=hgrow.size; simp at this; omega,fun k hk=>(hgrow.block k (by simp; omega) (by simp [Value.ownBlock]; omega)).trans (Below.heap_alloc _ _ _ hk)⟩
section
variable {kind mk:Int} {K:zAD kind} {of_:Nat→Option (Nat × Nat × Nat × Nat × Nat)} {acc:Nat→Option Nat} {idx:Nat→Nat→Nat→Option Int} {lower:Nat→Nat→Int→Option Nat} {value:Nat→Nat→Nat→Int→Option Nat}
def zJD (K:zAD kind) (M:zBK mk of_ acc idx lower value) (most:Int) (g off mult mn mx:Nat) (B:Rat) (xs:Items) (w:World) (e:Ending) (w':World):Prop:=zOj K M most g off mult mn mx B xs w e w'
def zWa (B:Rat) (xs:Items) (outs:List Nat) (bv bc bs bl bm bo:Nat) (w:World) (e:Ending) (w':World):Prop :=
  e = .returned (.tuple #[])∧∃ c s k l lo hi x gv,zGX B xs c s k l lo hi∧fadd s k=some x∧w'.heap[bv]?=some (.cells #[.slice (some ⟨gv,0,none⟩) outs.length outs.length] 23 (0,0))∧w.heap.size≤gv∧FRow w' gv outs.length (fun i=>zBj lo hi (outs.getD i 0)) ∧
    w'.heap[bc]?=some (.cells #[.float .f64 c] 29 (0,0))∧w'.heap[bs]?=some (.cells #[.float .f64 x] 29 (0,0))∧w'.heap[bl]?=some (.cells #[.float .f64 lo] 29 (0,0))∧w'.heap[bm]?=some (.cells #[.float .f64 hi] 29 (0,0))∧w'.heap[bo]?=some (.cells #[.bool true] 4 (0,0)) ∧
    Fr (fun b=>b=bv∨b=bc∨b=bs∨b=bl∨b=bm∨b=bo) w w'
set_option maxRecDepth 100000 in
set_option maxHeartbeats 2000000 in
theorem zQ4 (Q:zCJ K) (M:zBK mk of_ acc idx lower value) (most:Int) (g off mult mn mx cp:Nat) (B:Rat) (xs:Items) (fF:FuncId) (caps:Array Value) (ao:Option Addr) (qs outs:List Nat) (bf bq bv bc bs bl bm bo:Nat) (w:World)
   (eF:∀ args w,(callFunc fF args).run Tryz.prog w = .ok (.enter fF args) w) (hF:Calls Tryz.prog fF caps w fun e w'=>zJD K M most g off mult mn mx B xs w e w')
   (h0:w.cell? ⟨bf,0,none⟩=some (.func (.func fF) #[] caps)) (h1:w.cell? ⟨bq,0,none⟩=some (.slice ao qs.length cp)) (hq:LieN w ao qs) (hn:qs.length≤1000000) (hl:outs.length=qs.length)
   (hv:w.heap[bv]?=some (.cells #[.slice none 0 0] 23 (0,0))) (hc:w.heap[bc]?=some (.cells #[.float .f64 0] 29 (0,0))) (hs:w.heap[bs]?=some (.cells #[.float .f64 0] 29 (0,0))) (hl2:w.heap[bl]?=some (.cells #[.float .f64 0] 29 (0,0))) (hm:w.heap[bm]?=some (.cells #[.float .f64 0] 29 (0,0))) (ho:w.heap[bo]?=some (.cells #[.bool false] 4 (0,0)))
   (ds:bv≠bc∧bv≠bs∧bv≠bl∧bv≠bm∧bv≠bo∧bc≠bs∧bc≠bl∧bc≠bm∧bc≠bo∧bs≠bl∧bs≠bm∧bs≠bo∧bl≠bm∧bl≠bo∧bm≠bo)
   (hp:Few kind most (zAP (idx off mult) xs)) (hng:Few kind most (zAQ (idx off mult) xs)) (hz:zAd xs<1000000) (hcc:0<zAd xs+tot (zAP (idx off mult) xs)+tot (zAQ (idx off mult) xs))
   (hA:∀ k,(hk:k<qs.length)→zKJ (value g off mult) (zAP (idx off mult) xs) (zAQ (idx off mult) xs) (zAd xs) qs[k] (outs.getD k 0)) :
    Calls Tryz.prog 28 #[.pointer (some ⟨bf,0,none⟩),.pointer (some ⟨bq,0,none⟩),.pointer (some ⟨bv,0,none⟩),.pointer (some ⟨bc,0,none⟩),.pointer (some ⟨bs,0,none⟩),.pointer (some ⟨bl,0,none⟩),.pointer (some ⟨bm,0,none⟩),.pointer (some ⟨bo,0,none⟩)] w
      fun e w'=>zWa B xs outs bv bc bs bl bm bo w e w':=by
  have HQ:=Lib.hid hq
  have HV:=Lib.hid hv
  have HC:=Lib.hid hc
  have HS:=Lib.hid hs
  have HL:=Lib.hid hl2
  have HM:=Lib.hid hm
  have HO:=Lib.hid ho
  have HA:=Lib.hid hA
  have HP:=Lib.hid hp
  have HNG:=Lib.hid hng
  have HZ:=Lib.hid hz
  have HCC:=Lib.hid hcc
  have HDS:=Lib.hid ds
  have lq:=World.block_lt_of_cell? w _ h1
  clear hq hv hc hs hl2 hm ho hA hp hng hz hcc ds
  go_enter Tryz.func28,Tryz.ntmps28
  have HLQ:∀ w1,Below w.heap.size w w1→LieN (w1.alloc (.cells #[] 29)) ao qs:=fun w1 hb=>by
    rcases HQ.out with h9 | ⟨gq,oq,e9,hc⟩
    · exact .inl h9
    · exact .inr ⟨gq,oq,e9,fun i hi=>((hb.alloc hb.size _).cell (World.block_lt_of_cell? w _ (hc i hi))).trans (hc i hi)⟩
  go_wp2_with (first | (at_builtin; refine zGn rfl _ _ rfl ao cp qs rfl rfl hqL hn ?_; intro ao2 cp2 w2 hq2 hg2 hb2; have HQ2:=Lib.hid hq2; have HG2:=Lib.hid hg2; have HB2:=Lib.hid hb2; clear hq2 hg2 hb2 hqL q1 q2) | (go_at_fn fF; (with_reducible refine hF.mono ?_); rintro e w1 ⟨pe,pd,pt,pm,pp,pn,SP,SN,rfl,hh,hfrom,hb⟩; have q1:=(hb.cell lq).trans h1; have q2:(w1.alloc (.cells #[] 29)).cell? ⟨bq,0,none⟩=some (.slice ao qs.length cp):=(((Below.refl w1.heap.size w1).alloc (Nat.le_refl _) _).cell (World.block_lt_of_cell? w1 _ q1)).trans q1; have hqL:=HLQ w1 hb; have HH:=Lib.hid hh; have HFM:=Lib.hid hfrom; have HB:=Lib.hid hb; clear hh hfrom hb h0 h1 HLQ))
  obtain ⟨c,s,k,l,lo,hi,hsk,hst⟩:=HH.out
  have hsk2:=hsk.fr (Fr.of_below HB2.out) (fun b hb h=>by have:=hsk.lt b hb; omega)
  have HSK1:=Lib.hid hsk
  have HSK:=Lib.hid hsk2
  have HST:=Lib.hid hst
  have HE:=zQq ao2 cp2 qs outs HSK.out HQ2.out (fun gq o e=>⟨fun h=>by have h1:=hsk.lt gq (.inr (.inr (.inr (.inr (.inl h))))); have h2:=HG2.out gq o e; omega,fun h=>by have h1:=hsk.lt gq (.inr (.inr (.inr (.inr (.inr h))))); have h2:=HG2.out gq o e; omega⟩) hn hl
    (fun k hk SP' SN' w' hd=>zVd Q M qs[k] (outs.getD k 0) hd HP.out HNG.out HZ.out HCC.out (HA.out k hk))
  clear hsk hsk2 hst HH
  go_wp2_with fail
  refine HE.mono ?_
  clear HE
  rintro e w3 ⟨gv,SP3,SN3,rfl,v1,v2,v3,v4,hrow,hs3,hf3,hS1,hS2⟩
  have hne:(decide (zAd xs=0)&&((zAP (idx off mult) xs).isEmpty&&(zAQ (idx off mult) xs).isEmpty))=false:=by
    rw [Bool.eq_false_iff]
    intro hh
    rw [Bool.and_eq_true,Bool.and_eq_true,decide_eq_true_eq,List.isEmpty_iff,List.isEmpty_iff] at hh
    obtain ⟨a1,a2,a3⟩:=hh
    have:=HCC.out
    rw [a1,a2,a3] at this
    exact absurd this (by decide)
  have HMin:=zSs Q hs3 HP.out HNG.out HZ.out hne
  have HNE:=Lib.hid hne
  have HROW:=Lib.hid hrow
  have HF3:=Lib.hid hf3
  have HS31:=Lib.hid hS1
  have HS32:=Lib.hid hS2
  have HVG:=Lib.hid (And.intro v1 (And.intro v2 (And.intro v3 v4)))
  clear hs3 hrow hf3 hS1 hS2 v1 v2 v3 v4 hne
  go_wp2_with fail
  refine HMin.mono ?_
  clear HMin
  rintro e w4 ⟨rfl,hs4,hf4⟩
  have HMax:=zSt Q hs4 HP.out HNG.out HZ.out HNE.out
  have HF4:=Lib.hid hf4
  clear hs4 hf4
  go_wp2_with fail
  refine HMax.mono ?_
  clear HMax
  rintro e w5 ⟨rfl,hs5,hf5⟩
  obtain ⟨x,X,hx,fx⟩:∃ x X,fadd s k=some x∧FV x X:=by
    obtain ⟨m0,m1,k0,k1,e1,e2,S,C,fs,fc,s1,s2,c1,c2⟩:=HST.out.sum
    have hkM2:((xs.length:Nat):Rat)*B≤1000*B:=Rat.mul_le_mul_of_nonneg_right k1 m0
    have hkM:0≤((xs.length:Nat):Rat)*B:=Rat.mul_nonneg k0 m0
    obtain ⟨x,X,h1,h2,-⟩:=zQ6 fs fc (4*B) (by grind) (by grind) (by grind)
    exact ⟨x,X,h1,h2⟩
  have HCnt:=zNP hs5
  have HSum:=fun w' (h:Sk K M.tP M.t most g off mult mn mx (zAP (idx off mult) xs) (zAQ (idx off mult) xs) (zAd xs) c s k l lo hi SP3 SN3 pe pd pt pm pp pn w')=>zSr h x hx (zDC fx)
  have HSum5:=HSum w5 hs5
  have HF5:=Lib.hid hf5
  have HX:=Lib.hid hx
  have z1:=HB.out.size
  have z2:=HB2.out.size
  have z3:=HF3.out.size
  have z4:=HF4.out.size
  obtain ⟨fr1,fr2,fr3,fr4,fr5,fr6⟩:=HFM.out
  have hnew:Fr (fun b=>w.heap.size≤b) w w5:=by
    have f1:Fr (fun b=>w.heap.size≤b) w w2:=(Fr.of_below HB.out).trans (Fr.of_below HB2.out) (fun _ _ h=>h) (fun i _ h=>by omega)
    have gS3:∀ b,SP3 b∨SN3 b→w.heap.size≤b:=fun b hb=>by
      rcases hb with h | h
      · rcases HS31.out b h with h | h
        · exact fr5 b h
        · omega
      · rcases HS32.out b h with h | h
        · exact fr6 b h
        · omega
    refine ((f1.trans HF3.out (fun _ _ h=>h) (fun i _ h=>h.elim (fr5 i) (fr6 i))).trans HF4.out (fun _ _ h=>h) (fun i _ h=>gS3 i h)).trans HF5.out (fun _ _ h=>h) (fun i _ h=>gS3 i h)
  have HNEW:=Lib.hid hnew
  have keep:∀ {b o},w.heap[b]?=some o→w5.heap[b]?=some o:=fun {b o} h=>hnew.heap h (Nat.not_le.2 (lt_of_block h))
  have cv:=keep HV.out
  have cc:=keep HC.out
  have cs:=keep HS.out
  have cl:=keep HL.out
  have cm:=keep HM.out
  have co:=keep HO.out
  have r5:FRow w5 gv outs.length (fun i=>zBj lo hi (outs.getD i 0)):=(HROW.out.fr HF4.out (fun h=>h.elim HVG.out.2.1 HVG.out.2.2.1)).fr HF5.out (fun h=>h.elim HVG.out.2.1 HVG.out.2.2.1)
  have R5:=Lib.hid r5
  have dv:=cell_of_one cv
  have gv':=free_of_one cv
  have dc:=cell_of_one cc
  have gc:=free_of_one cc
  have ds:=cell_of_one cs
  have gs:=free_of_one cs
  have dl:=cell_of_one cl
  have gl:=free_of_one cl
  have dm:=cell_of_one cm
  have gm:=free_of_one cm
  have do_:=cell_of_one co
  have go_:=free_of_one co
  obtain ⟨n1,n2,n3,n4,n5,n6,n7,n8,n9,n10,n11,n12,n13,n14,n15⟩:=HDS.out
  have m1:=Ne.symm n1
  have m2:=Ne.symm n2
  have m3:=Ne.symm n3
  have m4:=Ne.symm n4
  have m5:=Ne.symm n5
  have m6:=Ne.symm n6
  have m7:=Ne.symm n7
  have m8:=Ne.symm n8
  have m9:=Ne.symm n9
  have m10:=Ne.symm n10
  have m11:=Ne.symm n11
  have m12:=Ne.symm n12
  have m13:=Ne.symm n13
  have m14:=Ne.symm n14
  have m15:=Ne.symm n15
  have CV:=Lib.hid cv
  have CC:=Lib.hid cc
  have CS:=Lib.hid cs
  have CL:=Lib.hid cl
  have CM:=Lib.hid cm
  have CO:=Lib.hid co
  clear hs5 hf5 hx fx cv cc cs cl cm co r5 keep hnew HSum z1 z2 z3 z4 fr1 fr2 fr3 fr4 fr5 fr6
  go_wp2_with (first | (go_at_call 32; (with_reducible refine HCnt.mono ?_); rintro e wa ⟨rfl,rfl⟩) | (go_at_call 33; (with_reducible refine HSum5.mono ?_); rintro e wb ⟨rfl,nb,rfl⟩))
  go_end0
  have lv:=lt_of_block HV.out
  have lc:=lt_of_block HC.out
  have ls:=lt_of_block HS.out
  have ll:=lt_of_block HL.out
  have lm:=lt_of_block HM.out
  have lo2:=lt_of_block HO.out
  have F0:Fr (fun b=>b=bv∨b=bc∨b=bs∨b=bl∨b=bm∨b=bo) w (w5.drewN nb):=(HNEW.out.mono (fun i hi h=>absurd hi (Nat.not_lt.2 h))).drewN nb
  have F6:∀ W0:World,∀ {S:Nat→Prop} {W:World},(∀ b,b=bv∨b=bc∨b=bs∨b=bl∨b=bm∨b=bo→S b)→Fr S W0 W→∀ v1 v2 v3 v4 v5 v6:Value,Fr S W0 ((((((W.setCell ⟨bv,0,none⟩ v1).setCell ⟨bc,0,none⟩ v2).setCell ⟨bs,0,none⟩ v3).setCell ⟨bl,0,none⟩ v4).setCell ⟨bm,0,none⟩ v5).setCell ⟨bo,0,none⟩ v6):=fun W0 {S W} hS hF v1 v2 v3 v4 v5 v6 =>
    (((((hF.setCell (p:=⟨bv,0,none⟩) (fun _=>hS _ (.inl rfl)) v1).setCell (p:=⟨bc,0,none⟩) (fun _=>hS _ (.inr (.inl rfl))) v2).setCell (p:=⟨bs,0,none⟩) (fun _=>hS _ (.inr (.inr (.inl rfl)))) v3).setCell (p:=⟨bl,0,none⟩) (fun _=>hS _ (.inr (.inr (.inr (.inl rfl))))) v4).setCell (p:=⟨bm,0,none⟩) (fun _=>hS _ (.inr (.inr (.inr (.inr (.inl rfl)))))) v5).setCell (p:=⟨bo,0,none⟩) (fun _=>hS _ (.inr (.inr (.inr (.inr (.inr rfl)))))) v6
  have hgv:=HVG.out.1
  have z2:=HB2.out.size
  have z1:=HB.out.size
  refine ⟨rfl,c,s,k,l,lo,hi,x,gv,HST.out,HX.out,?_,by omega,?_,?_,?_,?_,?_,?_,F6 w (fun _ h=>h) F0 _ _ _ _ _ _⟩
  · rw [heap_setCell_other _ _ _ _ n5,heap_setCell_other _ _ _ _ n4,heap_setCell_other _ _ _ _ n3,heap_setCell_other _ _ _ _ n2,heap_setCell_other _ _ _ _ n1,hl]
    exact one_setCell CV.out
  · refine R5.out.fr (F6 w5 (fun _ h=>h) ((Fr.refl (fun b=>b=bv∨b=bc∨b=bs∨b=bl∨b=bm∨b=bo) w5).drewN nb) _ _ _ _ _ _) (fun h=>by omega)
  · rw [heap_setCell_other _ _ _ _ n9,heap_setCell_other _ _ _ _ n8,heap_setCell_other _ _ _ _ n7,heap_setCell_other _ _ _ _ n6]
    exact one_setCell ((heap_setCell_other _ _ _ _ m1).trans CC.out)
  · rw [heap_setCell_other _ _ _ _ n12,heap_setCell_other _ _ _ _ n11,heap_setCell_other _ _ _ _ n10]
    exact one_setCell ((heap_setCell_other _ _ _ _ m6).trans ((heap_setCell_other _ _ _ _ m2).trans CS.out))
  · rw [heap_setCell_other _ _ _ _ n14,heap_setCell_other _ _ _ _ n13]
    exact one_setCell ((heap_setCell_other _ _ _ _ m10).trans ((heap_setCell_other _ _ _ _ m7).trans ((heap_setCell_other _ _ _ _ m3).trans CL.out)))
  · rw [heap_setCell_other _ _ _ _ n15]
    exact one_setCell ((heap_setCell_other _ _ _ _ m13).trans ((heap_setCell_other _ _ _ _ m11).trans ((heap_setCell_other _ _ _ _ m8).trans ((heap_setCell_other _ _ _ _ m4).trans CM.out))))
  · exact one_setCell ((heap_setCell_other _ _ _ _ m15).trans ((heap_setCell_other _ _ _ _ m14).trans ((heap_setCell_other _ _ _ _ m12).trans ((heap_setCell_other _ _ _ _ m9).trans ((heap_setCell_other _ _ _ _ m5).trans CO.out)))))
end
end Go.Proofs.YtllaekopaglolaaGreat
end
/-
  What a sketch answers is near the reference's quantile: the index of the rank.
-/
section
namespace Go.Proofs.YtllaekopaglolaaGreat
open Go.RowKit
set_option exponentiation.threshold 5000
theorem zIb {T:Items} (h:∀ q∈T,zAU q) {j:Nat} (hj:j<T.length):0<totC (T.take (j+1)):=by
  rw [zCV T j hj]
  have:=(h _ (List.getElem_mem hj)).c1
  omega
theorem zOJ {f:Int→Nat} {kf:Nat × Nat→Int} {T:Items} {d r' j:Nat} {RT R' Z:Int} (hZ:∀ n:Nat,n<9007199254740992→FV (nf n) ((n:Int)*Z)) (hZ0:0<Z) (fr:FV r' R') (hs:totC T<9007199254740992)
    (ho:∀ i j,(hi:i<T.length)→(hj:j<T.length)→i<j→kf T[i]≤kf T[j]) (hj:j<T.length)
    (hC:∀ x,-10000≤x→cK kf x T=d+cum f (x+1)) (hlow:∀ x,x < -10000→cum f (x+1)=0) (hk:-10000≤kf T[j])
    (hR:R'=max (RT - (d:Int)*Z) 0) (h1:RT<((totC (T.take (j+1)):Nat):Int)*Z) (h2:0<j→((totC (T.take j):Nat):Int)*Z≤RT) (h3:d<totC (T.take (j+1))):zB5 f r' (kf T[j]):=by
  have hle:∀ x,cK kf x T≤totC T:=fun x=>by
    unfold cK
    generalize T=A
    induction A with
    | nil=>exact Nat.le_refl _
    | cons q t ih =>
      rw [List.filter_cons]
      split
      · show q.2+_≤q.2+_; omega
      · show _≤q.2+_; omega
  have hb:∀ x,cum f (x+1)<9007199254740992:=fun x=>by
    by_cases hx:-10000≤x
    · have:=hC x hx; have:=hle x; omega
    · rw [hlow x (by omega)]; decide
  have mulle:∀ {a b:Nat},a≤b→(a:Int)*Z≤(b:Int)*Z:=fun {a b} h=>Int.mul_le_mul_of_nonneg_right (Int.ofNat_le.2 h) (Int.le_of_lt hZ0)
  constructor
  · show fgt (nf (cum f (kf T[j]+1))) r'=true
    rw [zBa (hZ _ (hb _)) fr,decide_eq_true_eq]
    have a:=zWE ho j hj
    rw [hC _ hk] at a
    have b:=mulle a
    have c:0<cum f (kf T[j]+1):=by omega
    have e:=mulle (show 1≤cum f (kf T[j]+1) from c)
    rw [Int.natCast_add,Int.add_mul] at b
    rw [show ((1:Nat):Int)=1 from rfl,Int.one_mul] at e
    rw [hR]
    generalize ((cum f (kf T[j]+1):Nat):Int)*Z=u at *
    generalize ((totC (T.take (j+1)):Nat):Int)*Z=v at *
    generalize (d:Int)*Z=w at *
    omega
  · intro x hx
    show fgt (nf (cum f (x+1))) r'=false
    rw [zBa (hZ _ (hb _)) fr,decide_eq_false_iff_not,hR]
    by_cases hx2:-10000≤x
    · have a:=zTG ho j hj x hx
      rw [hC _ hx2] at a
      by_cases h0:0<j
      · have b:=mulle a
        have c:=h2 h0
        rw [Int.natCast_add,Int.add_mul] at b
        generalize ((cum f (x+1):Nat):Int)*Z=u at *
        generalize ((totC (T.take j):Nat):Int)*Z=v at *
        generalize (d:Int)*Z=w at *
        omega
      · have:j=0:=by omega
        subst this
        have e0:totC (T.take 0)=0:=by rw [List.take_zero]; rfl
        rw [e0] at a
        have:cum f (x+1)=0:=by omega
        rw [this,Int.natCast_zero,Int.zero_mul]
        omega
    · rw [hlow x (by omega),Int.natCast_zero,Int.zero_mul]
      omega
def zRC (idx:Nat→Option Int):Prop:=∀ v w,4517329193108106637≤v→v≤w→w≤4696837146684686336→∃ i j,idx v=some i∧idx w=some j∧i≤j
theorem zTK {v w:Nat} (h1:4503599627370496≤v) (h2:4503599627370496≤w) (h:rvN v≤rvN w):v≤w:=by
  rw [zCT h1,zCT h2] at h
  refine Nat.le_of_not_lt fun c=>?_
  have:=zGc.2 c
  omega
theorem zVz {idx:Nat→Option Int} (hm:zRC idx) (hi:zC4 idx) {a b:Nat × Nat} (ha:zAU a) (hb:zAU b) (h:vI a.1≤vI b.1):kfP idx a≤kfP idx b:=by
  unfold kfP
  by_cases h1:0<vI a.1
  · rw [if_pos h1,if_pos (by omega)]
    obtain ⟨-,ca⟩:=zAx ha.lt ha.fits
    obtain ⟨-,cb⟩:=zAx hb.lt hb.fits
    rcases ca with ⟨h0,-⟩ | ⟨-,a1,a2,a3⟩ | ⟨h0,-⟩
    · omega
    · rcases cb with ⟨h0,-⟩ | ⟨-,b1,b2,b3⟩ | ⟨h0,-⟩
      · omega
      · rw [a3,b3] at h
        obtain ⟨i,j,e1,e2,e3⟩:=hm a.1 b.1 a1 (zTK (Nat.le_trans (by decide) a1) (Nat.le_trans (by decide) b1) (Int.ofNat_le.1 h)) b2
        rw [e1,e2]; exact e3
      · omega
    · omega
  · rw [if_neg h1]
    by_cases h2:0<vI b.1
    · rw [if_pos h2]
      obtain ⟨i,e,l,-⟩:=zIt hi hb h2
      rw [e]; show -20000≤i; omega
    · rw [if_neg h2]; exact Int.le_refl _
theorem zV1 {idx:Nat→Option Int} (hm:zRC idx) {a b:Nat × Nat} (ha:zAU a) (hb:zAU b) (na:vI a.1<0) (nb:vI b.1<0) (h:vI b.1≤vI a.1):kfN idx a≤kfN idx b:=by
  unfold kfN
  obtain ⟨-,ca⟩:=zAx ha.lt ha.fits
  obtain ⟨-,cb⟩:=zAx hb.lt hb.fits
  rcases ca with ⟨h0,-⟩ | ⟨h0,-⟩ | ⟨-,-,a1,a2,a3,a4⟩
  · omega
  · omega
  · rcases cb with ⟨h0,-⟩ | ⟨h0,-⟩ | ⟨-,-,b1,b2,b3,b4⟩
    · omega
    · omega
    · rw [a3,b3] at h
      have h9:rvN (a.1 - 9223372036854775808)≤rvN (b.1 - 9223372036854775808):=Int.ofNat_le.1 (by omega)
      obtain ⟨i,j,e1,e2,e3⟩:=hm _ _ a1 (zTK (Nat.le_trans (by decide) a1) (Nat.le_trans (by decide) b1) h9) b2
      rw [a4,b4,e1,e2]; exact e3
theorem zRR {L:Items}:Srt L↔L.Pairwise fun a b=>vI a.1≤vI b.1:=by
  rw [List.pairwise_iff_getElem]; rfl
theorem zRU (xs:Items):∃ L:Items,L.Perm xs∧Srt L:=by
  refine ⟨xs.mergeSort fun a b=>decide (vI a.1≤vI b.1),List.mergeSort_perm _ _,zRR.2 ?_⟩
  have:=List.pairwise_mergeSort (le:=fun (a b:Nat × Nat)=>decide (vI a.1≤vI b.1)) (fun a b c h1 h2=>by simp at *; omega) (fun a b=>by simp; omega) xs
  exact this.imp fun h=>by simpa using h
end Go.Proofs.YtllaekopaglolaaGreat
end
/-
  What a sketch answers is near the reference's quantile: each of the three ways.
-/
section
namespace Go.Proofs.YtllaekopaglolaaGreat
open Go.RowKit
set_option exponentiation.threshold 5000
theorem zS6 {bs:Bins} (h:InR bs) (x:Int) (hx:x < -10000):cum (cntB bs) (x+1)=0:=by
  rw [zCm _ h]
  have:bs.filter (fun p=>decide (p.1<x+1))=[]:=List.filter_eq_nil_iff.2 fun p hp=>by have:=(h p hp).1; simp; omega
  rw [this]; rfl
theorem zV0 {idx:Nat→Option Int} (hi:zC4 idx) {q:Nat × Nat} (hq:zAU q) (h:0<vI q.1):-10000≤kfP idx q:=by
  obtain ⟨i,e,a,-⟩:=zIt hi hq h
  unfold kfP
  rw [if_pos h,e]; show -10000≤i; omega
theorem zV2 {idx:Nat→Option Int} (hi:zC4 idx) {q:Nat × Nat} (hq:zAU q) (h:vI q.1<0):-10000≤kfN idx q:=by
  obtain ⟨i,e,a,-⟩:=zIu hi hq h
  unfold kfN
  rw [e]; show -10000≤i; omega
theorem zIB:∀ {L:Items},(∀ q∈L,vI q.1≤0)→totC L=totC (negs L)+zAd L
  | [],_=>rfl
  | q :: t,h=>by
    have ih:=zIB (L:=t) (fun q hq=>h q (List.mem_cons_of_mem _ hq))
    have hq:=h q List.mem_cons_self
    rw [zEA,show zAd (q :: t)=(if vI q.1=0 then q.2 else 0)+zAd t from rfl,show totC (q :: t)=q.2+totC t from rfl]
    by_cases h1:vI q.1<0
    · rw [if_pos h1,if_neg (by omega)]; show _=(q.2+_)+_; omega
    · rw [if_neg h1,if_pos (by omega)]; omega
theorem zOt (L:Items) (k:Nat):zAd (L.take k)≤zAd L:=by
  have:=zC5 (L.take k) (L.drop k)
  rw [List.take_append_drop] at this; omega
theorem zJb (L:Items) (k:Nat):totC (negs (L.take k))≤totC (negs L):=by
  have:=zEo (L.take k) (L.drop k)
  rw [List.take_append_drop] at this
  rw [this,zBc]; omega
theorem zFI {a b:Items} (h:a.Perm b):(negs a).Perm (negs b):=h.filter _
theorem zWH {idx:Nat→Option Int} (hm:zRC idx) (hi:zC4 idx) {xs L:Items} (hp:L.Perm xs) (hs:Srt L) (hx:∀ q∈xs,zAU q) {r r':Nat} {R Z:Int} (hZ:∀ n:Nat,n<9007199254740992→FV (nf n) ((n:Int)*Z)) (hZ0:0<Z) (hsz:totC xs<9007199254740992)
    (fr:FV r R) (hR:R<((totC xs:Nat):Int)*Z) (hge:((totC (negs xs)+zAd xs:Nat):Int)*Z≤R) (fr':FV r' (R - ((totC (negs xs)+zAd xs:Nat):Int)*Z)) :
    ∃ j,∃ h:j<L.length,valF r 0 L=L[j].1∧0<vI L[j].1∧zB5 (cntB (zAP idx xs)) r' (kfP idx L[j]):=by
  have hxL:∀ q∈L,zAU q:=fun q hq=>hx q (hp.mem_iff.1 hq)
  have eT:=zBb hp
  have eN:=zBb (zFI hp)
  have eZ:=zHz hp
  have hne:L≠[]:=fun e=>by
    subst e
    have e0:totC xs=0:=eT.symm
    rw [e0,Int.natCast_zero,Int.zero_mul] at hR
    have:=Int.mul_nonneg (Int.natCast_nonneg (totC (negs xs)+zAd xs)) (Int.le_of_lt hZ0)
    omega
  obtain ⟨j,hj,a,b,c⟩:=zGZ hZ fr L 0 (by omega) (by rw [Nat.zero_add,eT]; exact hR) hne
  rw [Nat.zero_add] at b c
  have hlt:totC (negs xs)+zAd xs<totC (L.take (j+1)):=by
    have:=Int.lt_of_le_of_lt hge b
    have:=Int.lt_of_mul_lt_mul_right this (Int.le_of_lt hZ0)
    omega
  have hposj:0<vI L[j].1:=by
    by_cases h:0<vI L[j].1
    · exact h
    · exfalso
      have hall:∀ q∈L.take (j+1),vI q.1≤0:=fun q hq=>by
        obtain ⟨i,hi',rfl⟩:=List.getElem_of_mem hq
        rw [List.length_take] at hi'
        rw [List.getElem_take]
        by_cases hij:i=j
        · subst hij; omega
        · have:=hs i j (by omega) hj (by omega); omega
      have h1:=zIB hall
      have h2:=zOt L (j+1)
      have h3:=zJb L (j+1)
      omega
  refine ⟨j,hj,a,hposj,?_⟩
  have hIn:InR (zAP idx L):=fun p hp'=>by
    have:=(zCj hi hxL).1 p hp'
    exact this
  have hIn2:InR (zAP idx xs):=(zCj hi hx).1
  refine zOJ (d:=totC (negs xs)+zAd xs) (RT:=R) hZ hZ0 fr' (by omega) (fun i j' hi' hj' hij=>zVz hm hi (hxL _ (List.getElem_mem hi')) (hxL _ (List.getElem_mem hj')) (hs i j' hi' hj' hij)) hj (fun x hx'=>?_) (fun x hx'=>zS6 hIn2 x hx') (zV0 hi (hxL _ (List.getElem_mem hj)) hposj) (by omega) b c hlt
  rw [zVU hi x hx' hxL,zCm _ hIn2,eN,eZ]
  congr 1
  exact zNk ((hp.filterMap _).filter _)
theorem zWI {idx:Nat→Option Int} (hm:zRC idx) (hi:zC4 idx) {xs L:Items} (hp:L.Perm xs) (hs:Srt L) (hx:∀ q∈xs,zAU q) {r2 r':Nat} {R2 Z:Int} (hZ:∀ n:Nat,n<9007199254740992→FV (nf n) ((n:Int)*Z)) (hZ0:0<Z) (hsz:totC xs<9007199254740992)
    (fr:FV r2 R2) (hR:R2<((totC (negs xs):Nat):Int)*Z) (hpos:0<totC (negs xs)) (fr':FV r' (max R2 0)) :
    ∃ q∈L,valF r2 0 (negs L).reverse=q.1∧vI q.1<0∧zB5 (cntB (zAQ idx xs)) r' (kfN idx q):=by
  have hxL:∀ q∈L,zAU q:=fun q hq=>hx q (hp.mem_iff.1 hq)
  have eN:=zBb (zFI hp)
  have hsub:=zDJ xs
  obtain ⟨T,hT⟩:∃ T,T=(negs L).reverse:=⟨_,rfl⟩
  have hTm:∀ q∈T,q∈L∧vI q.1<0:=fun q hq=>by
    rw [hT,List.mem_reverse] at hq
    unfold negs at hq
    obtain ⟨a,b⟩:=List.mem_filter.1 hq
    exact ⟨a,by simpa using b⟩
  have hTt:totC T=totC (negs xs):=by rw [hT,zF7,eN]
  have hne:T≠[]:=fun e=>by
    rw [e] at hTt
    have:totC ([]:Items)=0:=rfl
    omega
  have hord:T.Pairwise fun a b=>vI b.1≤vI a.1:=by
    rw [hT,List.pairwise_reverse]
    exact (zRR.1 hs).filter _
  obtain ⟨j,hj,a,b,c⟩:=zGZ hZ fr T 0 (by omega) (by rw [Nat.zero_add,hTt]; exact hR) hne
  rw [Nat.zero_add] at b c
  have hTok:∀ q∈T,zAU q:=fun q hq=>hxL q (hTm q hq).1
  have hq:=hTm _ (List.getElem_mem hj)
  rw [← hT]
  refine ⟨T[j],hq.1,a,hq.2,?_⟩
  have hIn2:InR (zAQ idx xs):=(zDO hi hx).1
  refine zOJ (d:=0) (RT:=R2) hZ hZ0 fr' (by omega) (fun i j' hi' hj' hij=>?_) hj (fun x hx'=>?_) (fun x hx'=>zS6 hIn2 x hx') (zV2 hi (hTok _ (List.getElem_mem hj)) hq.2) (by rw [Int.natCast_zero,Int.zero_mul,Int.sub_zero]) b c (zIb hTok hj)
  · have:=List.pairwise_iff_getElem.1 hord i j' hi' hj' hij
    exact zV1 hm (hTok _ (List.getElem_mem hi')) (hTok _ (List.getElem_mem hj')) (hTm _ (List.getElem_mem hi')).2 (hTm _ (List.getElem_mem hj')).2 this
  · have e1:cK (kfN idx) x T=cK (kfN idx) x (negs L):=by
      unfold cK
      rw [hT]
      exact zBb ((List.reverse_perm (negs L)).filter _)
    rw [e1,zVV hi x hxL,zCm _ hIn2,Nat.zero_add]
    exact zNk ((hp.filterMap _).filter _)
theorem zU1 {xs L:Items} (hp:L.Perm xs) (hs:Srt L) {r:Nat} {R Z:Int} (hZ:∀ n:Nat,n<9007199254740992→FV (nf n) ((n:Int)*Z)) (hZ0:0<Z) (hsz:totC xs<9007199254740992)
    (fr:FV r R) (hR:R<((totC (negs xs)+zAd xs:Nat):Int)*Z) (hge:((totC (negs xs):Nat):Int)*Z≤R) (hle:totC (negs xs)+zAd xs≤totC xs) :
    ∃ q∈L,valF r 0 L=q.1∧vI q.1=0:=by
  have eT:=zBb hp
  have eN:=zBb (zFI hp)
  have eZ:=zHz hp
  have mulle:∀ {a b:Nat},a≤b→(a:Int)*Z≤(b:Int)*Z:=fun {a b} h=>Int.mul_le_mul_of_nonneg_right (Int.ofNat_le.2 h) (Int.le_of_lt hZ0)
  have hRT:=Int.lt_of_lt_of_le hR (mulle hle)
  have hne:L≠[]:=fun e=>by
    subst e
    have e0:totC xs=0:=eT.symm
    rw [e0,Int.natCast_zero,Int.zero_mul] at hRT
    have:=Int.mul_nonneg (Int.natCast_nonneg (totC (negs xs))) (Int.le_of_lt hZ0)
    omega
  obtain ⟨j,hj,a,b,c⟩:=zGZ hZ fr L 0 (by omega) (by rw [Nat.zero_add,eT]; exact hRT) hne
  rw [Nat.zero_add] at b c
  refine ⟨L[j],List.getElem_mem hj,a,?_⟩
  rcases Int.lt_trichotomy (vI L[j].1) 0 with h | h | h
  · exfalso
    have hall:∀ q∈L.take (j+1),vI q.1<0:=fun q hq=>by
      obtain ⟨i,hi',rfl⟩:=List.getElem_of_mem hq
      rw [List.length_take] at hi'
      rw [List.getElem_take]
      by_cases hij:i=j
      · subst hij; exact h
      · have:=hs i j (by omega) hj (by omega); omega
    have h1:negs (L.take (j+1))=L.take (j+1):=List.filter_eq_self.2 fun q hq=>by simpa using hall q hq
    have h3:=zJb L (j+1)
    rw [h1,eN] at h3
    have:=mulle h3
    omega
  · exact h
  · exfalso
    by_cases h0:0<j
    · have hc:=c h0
      have h9:=Int.lt_of_mul_lt_mul_right (Int.lt_of_le_of_lt hc hR) (Int.le_of_lt hZ0)
      have h8:totC (negs L)+zAd L≤totC (L.take j):=by
        have hd:∀ q∈L.drop j,0<vI q.1:=fun q hq=>by
          obtain ⟨i,hi',rfl⟩:=List.getElem_of_mem hq
          rw [List.length_drop] at hi'
          rw [List.getElem_drop]
          by_cases hij:i=0
          · subst hij; exact h
          · have:=hs j (j+i) hj (by omega) (by omega); omega
        have e1:negs (L.drop j)=[]:=List.filter_eq_nil_iff.2 fun q hq=>by have:=hd q hq; simp; omega
        have e2:∀ {M:Items},(∀ q∈M,0<vI q.1)→zAd M=0:=fun {M} hM=>by
          induction M with
          | nil=>rfl
          | cons q t ih =>
            show (if vI q.1=0 then q.2 else 0)+zAd t=0
            rw [ih (fun q hq=>hM q (List.mem_cons_of_mem _ hq)),if_neg (by have:=hM q List.mem_cons_self; omega)]
        have e3:=zEo (L.take j) (L.drop j)
        have e4:=zC5 (L.take j) (L.drop j)
        rw [List.take_append_drop] at e3 e4
        rw [e1,List.append_nil] at e3
        rw [e2 hd,Nat.add_zero] at e4
        have hb:∀ M:Items,totC (negs M)+zAd M≤totC M:=fun M=>by
          induction M with
          | nil=>exact Nat.le_refl _
          | cons q t ih =>
            rw [zEA,show zAd (q :: t)=(if vI q.1=0 then q.2 else 0)+zAd t from rfl,show totC (q :: t)=q.2+totC t from rfl]
            by_cases h1:vI q.1<0
            · rw [if_pos h1,if_neg (by omega)]; show (q.2+_)+_≤_; omega
            · rw [if_neg h1]; split <;> omega
        rw [e3,e4]
        exact hb _
      have:totC (L.take j)<totC (negs xs)+zAd xs:=Int.ofNat_lt.1 h9
      omega
    · have hj0:j=0:=by omega
      subst hj0
      have hall:∀ q∈L,0<vI q.1:=fun q hq=>by
        obtain ⟨i,hi',rfl⟩:=List.getElem_of_mem hq
        by_cases hij:i=0
        · subst hij; exact h
        · have:=hs 0 i hj hi' (by omega); omega
      have e1:negs L=[]:=List.filter_eq_nil_iff.2 fun q hq=>by have:=hall q hq; simp; omega
      have e2:zAd L=0:=by
        have e2:∀ {M:Items},(∀ q∈M,0<vI q.1)→zAd M=0:=fun {M} hM=>by
          induction M with
          | nil=>rfl
          | cons q t ih =>
            show (if vI q.1=0 then q.2 else 0)+zAd t=0
            rw [ih (fun q hq=>hM q (List.mem_cons_of_mem _ hq)),if_neg (by have:=hM q List.mem_cons_self; omega)]
        exact e2 hall
      rw [e1] at eN
      rw [← eN,← eZ,e2] at hR
      have e5:((totC ([]:Items)+0:Nat):Int)=0:=rfl
      rw [e5,Int.zero_mul] at hR
      have:=Int.mul_nonneg (Int.natCast_nonneg (totC (negs xs))) (Int.le_of_lt hZ0)
      omega
end Go.Proofs.YtllaekopaglolaaGreat
end
