/-
  The value of a rank among values in order,and the index of that rank among their bins.
-/
import Derived.Test.YtllaekopaglolaaGreatHBJ
import Derived.Test.YtllaekopaglolaaGreatHAR
import Derived.Test.YtllaekopaglolaaGreatHBI
section
namespace Go.Proofs.YtllaekopaglolaaGreat
open Go.RowKit
theorem zGZ {r:Nat} {R Z:Int} (hZ:∀ n:Nat,n<9007199254740992→FV (nf n) ((n:Int)*Z)) (fr:FV r R):∀ (T:Items) (acc:Nat),acc+totC T<9007199254740992→R<((acc+totC T:Nat):Int)*Z→T≠[] →
    ∃ j,∃ h:j<T.length,valF r acc T=T[j].1∧R<((acc+totC (T.take (j+1)):Nat):Int)*Z∧(0<j→((acc+totC (T.take j):Nat):Int)*Z≤R)
  | [],_,_,_,h=>absurd rfl h
  | p :: t,acc,hs,hR,_=>by
    have ht:totC (p :: t)=p.2+totC t:=rfl
    rw [ht] at hs hR
    have hc:fgt2 (nf (acc+p.2)) r=decide (R<((acc+p.2:Nat):Int)*Z):=zBa (hZ _ (by omega)) fr
    by_cases h1:R<((acc+p.2:Nat):Int)*Z
    · refine ⟨0,Nat.succ_pos _,?_,?_,fun h=>absurd h (Nat.lt_irrefl 0)⟩
      · rw [valF,hc,decide_eq_true h1,Bool.true_or,if_pos rfl]; rfl
      · show R<((acc+(p.2+totC []):Nat):Int)*Z
        exact h1
    · have hne:t≠[]:=fun e=>by
        subst e
        exact h1 hR
      obtain ⟨j,hj,a,b,c⟩:=zGZ hZ fr t (acc+p.2) (by omega) (by rw [Nat.add_assoc]; exact hR) hne
      refine ⟨j+1,Nat.succ_lt_succ hj,?_,?_,fun _=>?_⟩
      · rw [valF,hc,decide_eq_false h1,Bool.false_or]
        have he:t.isEmpty=false:=by cases t with | nil=>exact absurd rfl hne | cons=>rfl
        rw [he,if_neg (by decide)]
        exact a
      · show R<((acc+(p.2+totC (t.take (j+1))):Nat):Int)*Z
        rw [← Nat.add_assoc]; exact b
      · show ((acc+(p.2+totC (t.take j)):Nat):Int)*Z≤R
        rw [← Nat.add_assoc]
        by_cases h0:0<j
        · exact c h0
        · have:j=0:=by omega
          subst this
          show ((acc+p.2+0:Nat):Int)*Z≤R
          rw [Nat.add_zero]; omega
def cK (kf:Nat × Nat→Int) (x:Int) (T:Items):Nat:=totC (T.filter fun q=>decide (kf q≤x))
theorem zWE {kf:Nat × Nat→Int} {T:Items} (ho:∀ i j,(hi:i<T.length)→(hj:j<T.length)→i<j→kf T[i]≤kf T[j]) (j:Nat) (hj:j<T.length):totC (T.take (j+1))≤cK kf (kf T[j]) T:=by
  unfold cK
  have h1:(T.take (j+1)).filter (fun q=>decide (kf q≤kf T[j]))=T.take (j+1):=by
    refine List.filter_eq_self.2 fun q hq=>?_
    obtain ⟨i,hi,rfl⟩:=List.getElem_of_mem hq
    rw [List.length_take] at hi
    rw [List.getElem_take]
    by_cases h:i=j
    · subst h; simp
    · simpa using ho i j (by omega) hj (by omega)
  generalize kf T[j]=K at h1 ⊢
  have h2:=congrArg (List.filter fun q=>decide (kf q≤K)) (List.take_append_drop (j+1) T)
  rw [List.filter_append,h1] at h2
  rw [← h2,zBc]
  omega
theorem zTG {kf:Nat × Nat→Int} {T:Items} (ho:∀ i j,(hi:i<T.length)→(hj:j<T.length)→i<j→kf T[i]≤kf T[j]) (j:Nat) (hj:j<T.length) (x:Int) (hx:x<kf T[j]):cK kf x T≤totC (T.take j):=by
  unfold cK
  have h1:(T.drop j).filter (fun q=>decide (kf q≤x))=[]:=by
    refine List.filter_eq_nil_iff.2 fun q hq=>?_
    obtain ⟨i,hi,rfl⟩:=List.getElem_of_mem hq
    rw [List.length_drop] at hi
    rw [List.getElem_drop]
    by_cases h:i=0
    · subst h; simpa using hx
    · have:=ho j (j+i) hj (by omega) (by omega)
      simp; omega
  have h2:=congrArg (List.filter fun q=>decide (kf q≤x)) (List.take_append_drop j T)
  rw [List.filter_append,h1,List.append_nil] at h2
  rw [← h2]
  generalize T.take j=A
  induction A with
  | nil=>exact Nat.le_refl _
  | cons q t ih =>
    rw [List.filter_cons]
    split
    · show q.2+_≤q.2+_; omega
    · show _≤q.2+_; omega
theorem zNk {a b:Bins} (h:a.Perm b):tot a=tot b:=by
  induction h with
  | nil=>rfl
  | cons x _ ih=>show _+_=_+_; rw [ih]
  | swap x y l=>show y.2+(x.2+tot l)=x.2+(y.2+tot l); omega
  | trans _ _ i1 i2=>rw [i1,i2]
theorem zHz {a b:Items} (h:a.Perm b):zAd a=zAd b:=by
  induction h with
  | nil=>rfl
  | cons x _ ih=>show _+_=_+_; rw [ih]
  | swap x y l=>show _+(_+zAd l)=_+(_+zAd l); omega
  | trans _ _ i1 i2=>rw [i1,i2]
def kfP (idx:Nat→Option Int) (q:Nat × Nat):Int:=if 0<vI q.1 then (idx q.1).getD 0 else -20000
def kfN (idx:Nat→Option Int) (q:Nat × Nat):Int:=(idx (negF q.1)).getD 0
theorem zTF (kf:Nat × Nat→Int) (x:Int) (q:Nat × Nat) (t:Items):cK kf x (q :: t)=(if kf q≤x then q.2 else 0)+cK kf x t:=by
  unfold cK
  rw [List.filter_cons]
  by_cases h:kf q≤x
  · rw [if_pos (by simpa using h),if_pos h]; rfl
  · rw [if_neg (by simpa using h),if_neg h]; omega
theorem zEA (q:Nat × Nat) (t:Items):negs (q :: t)=if vI q.1<0 then q :: negs t else negs t:=by
  unfold negs
  rw [List.filter_cons]
  by_cases h:vI q.1<0
  · rw [if_pos (by simpa using h),if_pos h]
  · rw [if_neg (by simpa using h),if_neg h]
theorem zIt {idx:Nat→Option Int} (hi:zC4 idx) {q:Nat × Nat} (hq:zAU q) (h:0<vI q.1):∃ i,idx q.1=some i ∧ -5000≤i∧i≤5000:=by
  obtain ⟨-,hc⟩:=zAx hq.lt hq.fits
  rcases hc with ⟨h0,-⟩ | ⟨-,h1,h2,-⟩ | ⟨h0,-⟩
  · omega
  · exact hi q.1 h1 h2
  · omega
theorem zIu {idx:Nat→Option Int} (hi:zC4 idx) {q:Nat × Nat} (hq:zAU q) (h:vI q.1<0):∃ i,idx (negF q.1)=some i ∧ -5000≤i∧i≤5000:=by
  obtain ⟨-,hc⟩:=zAx hq.lt hq.fits
  rcases hc with ⟨h0,-⟩ | ⟨h0,-⟩ | ⟨-,-,h1,h2,-,h4⟩
  · omega
  · omega
  · rw [h4]; exact hi _ h1 h2
theorem zVU {idx:Nat→Option Int} (hi:zC4 idx) (x:Int) (hx:-10000≤x):∀ {L:Items},(∀ q∈L,zAU q)→cK (kfP idx) x L=totC (negs L)+zAd L+tot ((zAP idx L).filter fun p=>decide (p.1<x+1))
  | [],_=>rfl
  | q :: t,h=>by
    have ih:=zVU hi x hx (L:=t) (fun q hq=>h q (List.mem_cons_of_mem _ hq))
    have hq:=h q List.mem_cons_self
    rw [zTF,zEA,show zAd (q :: t)=(if vI q.1=0 then q.2 else 0)+zAd t from rfl,ih]
    by_cases h1:0<vI q.1
    · obtain ⟨i,e,-,-⟩:=zIt hi hq h1
      have e1:kfP idx q=i:=by unfold kfP; rw [if_pos h1,e]; rfl
      have e2:zAP idx (q :: t)=(i,q.2) :: zAP idx t:=by
        unfold zAP
        exact List.filterMap_cons_some (by unfold zG3; rw [if_pos h1,e]; rfl)
      rw [e1,e2,if_neg (show ¬ vI q.1<0 by omega),if_neg (show ¬ vI q.1=0 by omega),List.filter_cons]
      by_cases hix:i≤x
      · rw [if_pos hix,if_pos (by simp; omega)]; show _=_+(q.2+_); omega
      · rw [if_neg hix,if_neg (by simp; omega)]; omega
    · have e1:kfP idx q = -20000:=by unfold kfP; rw [if_neg h1]
      have e2:zAP idx (q :: t)=zAP idx t:=by
        unfold zAP
        exact List.filterMap_cons_none (by unfold zG3; rw [if_neg h1])
      rw [e1,e2,if_pos (by omega)]
      by_cases h2:vI q.1<0
      · rw [if_pos h2,if_neg (by omega)]; show _=(q.2+_)+_+_; omega
      · rw [if_neg h2,if_pos (by omega)]; omega
theorem zVV {idx:Nat→Option Int} (hi:zC4 idx) (x:Int):∀ {L:Items},(∀ q∈L,zAU q)→cK (kfN idx) x (negs L)=tot ((zAQ idx L).filter fun p=>decide (p.1<x+1))
  | [],_=>rfl
  | q :: t,h=>by
    have ih:=zVV hi x (L:=t) (fun q hq=>h q (List.mem_cons_of_mem _ hq))
    have hq:=h q List.mem_cons_self
    rw [zEA]
    by_cases h1:vI q.1<0
    · obtain ⟨i,e,-,-⟩:=zIu hi hq h1
      have e1:kfN idx q=i:=by unfold kfN; rw [e]; rfl
      have e2:zAQ idx (q :: t)=(i,q.2) :: zAQ idx t:=by
        unfold zAQ
        exact List.filterMap_cons_some (by unfold zHC; rw [if_pos h1,e]; rfl)
      rw [if_pos h1,zTF,e1,e2,ih,List.filter_cons]
      by_cases hix:i≤x
      · rw [if_pos hix,if_pos (by simp; omega)]; rfl
      · rw [if_neg hix,if_neg (by simp; omega)]; omega
    · have e2:zAQ idx (q :: t)=zAQ idx t:=by
        unfold zAQ
        exact List.filterMap_cons_none (by unfold zHC; rw [if_neg h1])
      rw [if_neg h1,e2,ih]
theorem zGr {idx:Nat→Option Int} (hi:zC4 idx):∀ {L:Items},(∀ q∈L,zAU q)→totC L=totC (negs L)+zAd L+tot (zAP idx L)∧tot (zAQ idx L)=totC (negs L)
  | [],_=>⟨rfl,rfl⟩
  | q :: t,h=>by
    obtain ⟨ih1,ih2⟩:=zGr hi (L:=t) (fun q hq=>h q (List.mem_cons_of_mem _ hq))
    have hq:=h q List.mem_cons_self
    rw [zEA,show zAd (q :: t)=(if vI q.1=0 then q.2 else 0)+zAd t from rfl,show totC (q :: t)=q.2+totC t from rfl]
    rcases Int.lt_trichotomy (vI q.1) 0 with h1 | h1 | h1
    · obtain ⟨i,e,-,-⟩:=zIu hi hq h1
      have e2:zAQ idx (q :: t)=(i,q.2) :: zAQ idx t:=by
        unfold zAQ
        exact List.filterMap_cons_some (by unfold zHC; rw [if_pos h1,e]; rfl)
      have e3:zAP idx (q :: t)=zAP idx t:=by
        unfold zAP
        exact List.filterMap_cons_none (by unfold zG3; rw [if_neg (by omega)])
      rw [if_pos h1,if_neg (by omega),e2,e3]
      refine ⟨?_,?_⟩
      · show _=(q.2+_)+_+_; omega
      · show q.2+_=q.2+_; omega
    · have e2:zAQ idx (q :: t)=zAQ idx t:=by
        unfold zAQ
        exact List.filterMap_cons_none (by unfold zHC; rw [if_neg (by omega)])
      have e3:zAP idx (q :: t)=zAP idx t:=by
        unfold zAP
        exact List.filterMap_cons_none (by unfold zG3; rw [if_neg (by omega)])
      rw [if_neg (by omega),if_pos h1,e2,e3]
      exact ⟨by omega,ih2⟩
    · obtain ⟨i,e,-,-⟩:=zIt hi hq h1
      have e2:zAQ idx (q :: t)=zAQ idx t:=by
        unfold zAQ
        exact List.filterMap_cons_none (by unfold zHC; rw [if_neg (by omega)])
      have e3:zAP idx (q :: t)=(i,q.2) :: zAP idx t:=by
        unfold zAP
        exact List.filterMap_cons_some (by unfold zG3; rw [if_pos h1,e]; rfl)
      rw [if_neg (by omega),if_neg (by omega),e2,e3]
      refine ⟨?_,ih2⟩
      show _=_+_+(q.2+_); omega
end Go.Proofs.YtllaekopaglolaaGreat
end
/-
  The values at some quantiles,of a sketch with its summary: none less than the least value,none greater than the greatest one.
-/
section
namespace Go.Proofs.YtllaekopaglolaaGreat
open Go.RowKit
section
variable {kind:Int} {K:zAD kind} {tP t:TypeId} {most:Int} {g off mult mn mx:Nat} {ps ns:Bins} {z c s k l lo hi:Nat} {SP SN SP' SN':Nat→Prop} {pe pd pt pm pp pn:Nat} {w w':World}
theorem Sk.dd (h:Sk K tP t most g off mult mn mx ps ns z c s k l lo hi SP SN pe pd pt pm pp pn w):Dd K tP t most g off mult mn mx ps ns z SP SN pd pm pp pn w :=
  ⟨h.bd,h.bm,h.sp,h.sn,h.dj,fun b hb=>⟨(h.own b hb).2.1,(h.own b hb).2.2.2⟩⟩
theorem Sk.of (h:Sk K tP t most g off mult mn mx ps ns z c s k l lo hi SP SN pe pd pt pm pp pn w) (hd:Dd K tP t most g off mult mn mx ps ns z SP' SN' pd pm pp pn w') (hf:Fr (fun b=>SP b∨SN b) w w') (h1:∀ b,SP' b→SP b∨w.heap.size≤b) (h2:∀ b,SN' b→SN b∨w.heap.size≤b) :
    Sk K tP t most g off mult mn mx ps ns z c s k l lo hi SP' SN' pe pd pt pm pp pn w':=by
  have l1:=lt_of_block h.be
  have l2:=lt_of_block h.bd
  have l3:=lt_of_block h.bt
  have l4:=lt_of_block h.bm
  refine ⟨hf.heap h.be (fun hb=>(h.own _ hb).1 rfl),hd.bd,hf.heap h.bt (fun hb=>(h.own _ hb).2.2.1 rfl),hd.bm,hd.sp,hd.sn,hd.dj,fun b hb=>?_,h.nm⟩
  have h9:(SP b∨SN b)∨w.heap.size≤b:=hb.elim (fun h=>(h1 b h).elim (fun h=>.inl (.inl h)) .inr) (fun h=>(h2 b h).elim (fun h=>.inl (.inr h)) .inr)
  rcases h9 with h9 | h9
  · exact h.own b h9
  · omega
theorem Sk.lt (h:Sk K tP t most g off mult mn mx ps ns z c s k l lo hi SP SN pe pd pt pm pp pn w):∀ b,b=pe∨b=pd∨b=pt∨b=pm∨SP b∨SN b→b<w.heap.size:=fun b hb=>by
  rcases hb with h1 | h1 | h1 | h1 | h1 | h1
  · rw [h1]; exact lt_of_block h.be
  · rw [h1]; exact lt_of_block h.bd
  · rw [h1]; exact lt_of_block h.bt
  · rw [h1]; exact lt_of_block h.bm
  · exact K.lt most _ SP pp w h.sp b h1
  · exact K.lt most _ SN pn w h.sn b h1
def zBj (lo hi v:Nat):Nat:=if flt v lo=true then lo else if fgt v hi=true then hi else v
def zVM (outs:List Nat) (lo hi gv:Nat) (w1 wr:World) (i:Value):Prop :=
  ∃ k:Nat,k≤outs.length∧i = .int .i64 (k:Int)∧FRow wr gv outs.length (fun i=>if i<k then zBj lo hi (outs.getD i 0) else outs.getD i 0)∧Fr (fun b=>b=gv) w1 wr
def zXW (K:zAD kind) (tP t:TypeId) (most:Int) (g off mult mn mx:Nat) (ps ns:Bins) (z c s k l lo hi:Nat) (SP SN:Nat→Prop) (pe pd pt pm pp pn:Nat) (outs:List Nat) (w:World) (e:Ending) (w':World):Prop :=
  ∃ gv SP' SN',e = .returned (.tuple #[.slice (some ⟨gv,0,none⟩) outs.length outs.length,.nilIface])∧w.heap.size≤gv∧¬ SP' gv∧¬ SN' gv∧gv<w'.heap.size∧FRow w' gv outs.length (fun i=>zBj lo hi (outs.getD i 0)) ∧
    Sk K tP t most g off mult mn mx ps ns z c s k l lo hi SP' SN' pe pd pt pm pp pn w'∧Fr (fun b=>SP b∨SN b) w w'∧(∀ b,SP' b→SP b∨w.heap.size≤b)∧∀ b,SN' b→SN b∨w.heap.size≤b
set_option maxRecDepth 100000 in
set_option maxHeartbeats 2000000 in
theorem zQq (ao:Option Addr) (cp:Nat) (qs outs:List Nat) (h:Sk K tP t most g off mult mn mx ps ns z c s k l lo hi SP SN pe pd pt pm pp pn w) (hq:LieN w ao qs) (hao:∀ gq o,ao=some ⟨gq,o,none⟩→¬ SP gq∧¬ SN gq) (hn:qs.length≤1000000) (hl:outs.length=qs.length)
   (HV:∀ k,(hk:k<qs.length)→∀ SP' SN' w',Dd K tP t most g off mult mn mx ps ns z SP' SN' pd pm pp pn w'→Calls Tryz.prog 65 #[.pointer (some ⟨pd,0,none⟩),.float .f64 qs[k]] w' fun e w''=>zRA K tP t most g off mult mn mx ps ns z SP' SN' pd pm pp pn (outs.getD k 0) w' e w'') :
    Calls Tryz.prog 29 #[.pointer (some ⟨pe,0,none⟩),.slice ao qs.length cp] w fun e w'=>zXW K tP t most g off mult mn mx ps ns z c s k l lo hi SP SN pe pd pt pm pp pn outs w e w':=by
  have HC:=zTg ao cp qs outs h.dd hq hao hn hl HV
  have e0:=cell_of_row _ _ 0 _ _ _ h.be
  have HS:=Lib.hid h
  clear h hq hao HV
  go_enter Tryz.func29,Tryz.ntmps29
  go_wp2_with fail
  refine HC.mono ?_
  clear HC e0
  rintro e w1 ⟨gv,SP1,SN1,rfl,g1,g2,g3,g4,g5,g6,hrow,hd,hf,hS1,hS2⟩
  have hs1:=HS.out.of hd hf hS1 hS2
  have e1:=cell_of_row _ _ 1 _ _ _ hs1.be
  have HMin:=zHF pt c s k l lo hi w1 hs1.bt
  have HMax:=zHH pt c s k l lo hi w1 hs1.bt
  have H1:=Lib.hid hs1
  have HROW:=Lib.hid hrow
  have HF:=Lib.hid hf
  have HS1:=Lib.hid hS1
  have HS2:=Lib.hid hS2
  have HG:=Lib.hid (And.intro g1 (And.intro g2 (And.intro g3 g6)))
  clear hs1 hrow hd hf hS1 hS2 g1 g2 g3 g4 g5 g6
  go_wp2_with (first | (go_at_call 45; (with_reducible refine HMin.mono ?_); rintro e wa ⟨rfl,rfl⟩) | (go_at_call 46; (with_reducible refine HMax.mono ?_); rintro e wb ⟨rfl,rfl⟩))
  clear HMin HMax
  go_loopw [32] (fun i wr=>zVM outs lo hi gv w1 wr i) (fun i _=>outs.length - (intOf i).toNat)
  case atStart=>exact ⟨0,Nat.zero_le _,rfl,HROW.out.ext (fun i hi=>by simp),Fr.refl _ _⟩
  case round =>
    obtain ⟨k,hk,rfl,hrow,hfr⟩:=hrel
    by_cases hlt:k<outs.length
    · have hltI:(k:Int)<((outs.length:Nat):Int):=by omega
      obtain ⟨c0,f0⟩:=hrow.cell hlt
      rw [if_neg (Nat.lt_irrefl k)] at c0
      obtain ⟨v,hv⟩:∃ v,v=outs.getD k 0:=⟨_,rfl⟩
      rw [← hv] at c0
      obtain ⟨b1,h1⟩:∃ b,flt v lo=b:=⟨_,rfl⟩
      obtain ⟨b2,h2⟩:∃ b,fgt v hi=b:=⟨_,rfl⟩
      have k1:(FloatKind.f64.format.order v lo == some .lt)=b1:=h1
      have k2:(FloatKind.f64.format.order v hi == some .gt)=b2:=h2
      have HCL:Hid (zBj lo hi v=if b1=true then lo else if b2=true then hi else v):=by unfold zBj; rw [h1,h2]; rfl
      have HV:=Lib.hid hv
      have HROW2:=Lib.hid hrow
      have HFR:=Lib.hid hfr
      clear hv h1 h2 hrow hfr
      cases b1
      · cases b2
        · go_wp2
          go_roundw
          case rel =>
            refine ⟨k+1,by omega,by go_num,HROW2.out.ext (fun i hi=>?_),HFR.out⟩
            by_cases e:i=k
            · subst e
              rw [if_neg (Nat.lt_irrefl i),if_pos (by omega),← HV.out,HCL.out]; rfl
            · by_cases e2:i<k
              · rw [if_pos e2,if_pos (by omega)]
              · rw [if_neg e2,if_neg (by omega)]
          case measure=>simp [intOf]; omega
        · go_wp2
          go_roundw
          case rel =>
            refine ⟨k+1,by omega,by go_num,(HROW2.out.set k hi).ext (fun i hi=>?_),HFR.out.setCell (p:=⟨gv,k,none⟩) (fun _=>rfl) _⟩
            by_cases e:i=k
            · subst e
              rw [if_pos rfl,if_pos (by omega),← HV.out,HCL.out]; rfl
            · rw [if_neg e]
              by_cases e2:i<k
              · rw [if_pos e2,if_pos (by omega)]
              · rw [if_neg e2,if_neg (by omega)]
          case measure=>simp [intOf]; omega
      · go_wp2
        go_roundw
        case rel =>
          refine ⟨k+1,by omega,by go_num,(HROW2.out.set k lo).ext (fun i hi=>?_),HFR.out.setCell (p:=⟨gv,k,none⟩) (fun _=>rfl) _⟩
          by_cases e:i=k
          · subst e
            rw [if_pos rfl,if_pos (by omega),← HV.out,HCL.out]; rfl
          · rw [if_neg e]
            by_cases e2:i<k
            · rw [if_pos e2,if_pos (by omega)]
            · rw [if_neg e2,if_neg (by omega)]
        case measure=>simp [intOf]; omega
    · obtain rfl:k=outs.length:=by omega
      have HROW2:=Lib.hid hrow
      have HFR:=Lib.hid hfr
      clear hlt hrow hfr
      go_wp2
      go_ret2
      obtain ⟨g1,g2,g3,g6⟩:=HG.out
      have hz:=HFR.out.size
      have hnot:∀ b,b=pe∨b=pd∨b=pt∨b=pm∨SP1 b∨SN1 b→¬ b=gv:=fun b hb e=>by
        rcases hb with h | h | h | h | h | h
        · have:=HS.out.lt b (.inl h); omega
        · have:=HS.out.lt b (.inr (.inl h)); omega
        · have:=HS.out.lt b (.inr (.inr (.inl h))); omega
        · have:=HS.out.lt b (.inr (.inr (.inr (.inl h)))); omega
        · rw [e] at h; exact g2 h
        · rw [e] at h; exact g3 h
      refine ⟨gv,SP1,SN1,by rw [hl]; rfl,g1,g2,g3,by omega,HROW2.out.ext (fun i hi=>by rw [if_pos hi]),H1.out.fr HFR.out hnot,HF.out.trans HFR.out (fun _ _ h=>h) (fun i hi h=>by omega),HS1.out,HS2.out⟩
end
end Go.Proofs.YtllaekopaglolaaGreat
end
/-
  What a sketch tells of itself: its least and greatest value,its count,its sum.
-/
section
namespace Go.Proofs.YtllaekopaglolaaGreat
open Go.RowKit
section
variable {kind:Int} {K:zAD kind} {tP t:TypeId} {most:Int} {g off mult mn mx:Nat} {ps ns:Bins} {z c s k l lo hi:Nat} {SP SN:Nat→Prop} {pe pd pt pm pp pn:Nat} {w w':World}
def zTY (K:zAD kind) (tP t:TypeId) (most:Int) (g off mult mn mx:Nat) (ps ns:Bins) (z c s k l lo hi:Nat) (SP SN:Nat→Prop) (pe pd pt pm pp pn:Nat) (w w':World):Prop :=
  Sk K tP t most g off mult mn mx ps ns z c s k l lo hi SP SN pe pd pt pm pp pn w'∧Fr (fun b=>SP b∨SN b) w w'
set_option maxRecDepth 100000 in
set_option maxHeartbeats 1000000 in
theorem zJ0 (Q:zCJ K) (h:Dd K tP t most g off mult mn mx ps ns z SP SN pd pm pp pn w) (hp:Few kind most ps) (hn:Few kind most ns) (hz:z<1000000) :
    Calls Tryz.prog 47 #[.pointer (some ⟨pd,0,none⟩)] w fun e w'=>e = .returned (.bool (decide (z=0)&&(ps.isEmpty&&ns.isEmpty)))∧Dd K tP t most g off mult mn mx ps ns z SP SN pd pm pp pn w'∧Fr (fun b=>SP b∨SN b) w w':=by
  obtain ⟨-,d1,d2,d3⟩:=h.cells
  have CP:=Q.cEmp most ps SP pp w h.sp hp
  have HD1:∀ w',zHr K most ps SP pp w w'→Dd K tP t most g off mult mn mx ps ns z SP SN pd pm pp pn w':=fun w' hk=>h.keyP hk.1 hk.2 (fun _ hb=>.inl hb)
  have CN:∀ w',Dd K tP t most g off mult mn mx ps ns z SP SN pd pm pp pn w'→Calls Tryz.prog Q.fEmp #[.pointer (some ⟨pn,0,none⟩)] w' fun e w''=>e = .returned (.bool ns.isEmpty)∧zHr K most ns SN pn w' w'':=fun w' h'=>Q.cEmp most ns SN pn w' h'.sn hn
  have m1:=Q.mEmp pp
  have m2:=Q.mEmp pn
  have e1:=Q.eEmp
  have hord:=zBn z 0 (by omega) (by decide)
  rw [zAp] at hord
  have HD:=Lib.hid h
  by_cases hz0:z=0
  · have k0:(FloatKind.f64.format.order (nf z) 0 == some .eq)=true:=by rw [hord,Nat.compare_eq_eq.2 hz0]; rfl
    rw [decide_eq_true hz0,Bool.true_and]
    obtain ⟨b1,hb1⟩:∃ b,b=ps.isEmpty:=⟨_,rfl⟩
    obtain ⟨b2,hb2⟩:∃ b,b=ns.isEmpty:=⟨_,rfl⟩
    rw [← hb1] at CP ⊢
    rw [← hb2] at CN ⊢
    clear h hp hn hz hz0 hord hb1 hb2
    cases b1
    · go_enter Tryz.func47,Tryz.ntmps47
      go_wp2_with (go_at_fn Q.fEmp; (with_reducible refine CP.mono ?_); rintro e w1 ⟨rfl,hk1⟩; have h1:=HD1 w1 hk1; have H1:=Lib.hid h1; have HK1:=Lib.hid hk1.2; clear h1 hk1)
      go_ret
      exact ⟨rfl,H1.out,HK1.out.mono (fun _ _ h=>.inl h)⟩
    · cases b2 <;> (
        go_enter Tryz.func47,Tryz.ntmps47
        go_wp2_with (first | (go_at_fn Q.fEmp; (with_reducible refine CP.mono ?_); rintro e w1 ⟨rfl,hk1⟩; have h1:=HD1 w1 hk1; have CN1:=CN w1 h1; obtain ⟨-,x1,x2,x3⟩:=h1.cells; have H1:=Lib.hid h1; have HK1:=Lib.hid hk1.2; clear h1 hk1 CN) | (go_at_fn Q.fEmp; (with_reducible refine CN1.mono ?_); rintro e w2 ⟨rfl,hk2⟩; have H2:=Lib.hid hk2; clear hk2 CN1))
        go_ret
        exact ⟨rfl,H1.out.keyN H2.out.1 H2.out.2 (fun _ hb=>.inl hb),(HK1.out.mono (fun _ _ h=>Or.inl h)).trans H2.out.2 (fun _ _ h=>h) (fun _ _ h=>.inr h)⟩)
  · have k0:(FloatKind.f64.format.order (nf z) 0 == some .eq)=false:=by rw [hord,Nat.compare_eq_gt.2 (by omega)]; rfl
    rw [decide_eq_false hz0,Bool.false_and]
    clear h hp hn hz hz0 hord
    go_enter Tryz.func47,Tryz.ntmps47
    go_wp2
    go_ret
    exact ⟨rfl,HD.out,Fr.refl _ _⟩
set_option maxRecDepth 100000 in
set_option maxHeartbeats 1000000 in
theorem zSs (Q:zCJ K) (h:Sk K tP t most g off mult mn mx ps ns z c s k l lo hi SP SN pe pd pt pm pp pn w) (hp:Few kind most ps) (hn:Few kind most ns) (hz:z<1000000) (hne:(decide (z=0)&&(ps.isEmpty&&ns.isEmpty))=false) :
    Calls Tryz.prog 30 #[.pointer (some ⟨pe,0,none⟩)] w fun e w'=>e = .returned (.tuple #[.float .f64 lo,.nilIface])∧zTY K tP t most g off mult mn mx ps ns z c s k l lo hi SP SN pe pd pt pm pp pn w w':=by
  have HE:=zJ0 Q h.dd hp hn hz
  rw [hne] at HE
  have e0:=cell_of_row _ _ 0 _ _ _ h.be
  have HS:=Lib.hid h
  clear h hp hn hz hne
  go_enter Tryz.func30,Tryz.ntmps30
  go_wp2_with fail
  refine HE.mono ?_
  clear HE e0
  rintro e w1 ⟨rfl,hd,hf⟩
  have hs1:=HS.out.of hd hf (fun _ hb=>.inl hb) (fun _ hb=>.inl hb)
  have e1:=cell_of_row _ _ 1 _ _ _ hs1.be
  have HM:=zHF pt c s k l lo hi w1 hs1.bt
  have H1:=Lib.hid hs1
  have HF:=Lib.hid hf
  clear hs1 hd hf
  go_wp2_with (go_at_call 45; (with_reducible refine HM.mono ?_); rintro e wa ⟨rfl,rfl⟩)
  go_ret2
  exact ⟨rfl,H1.out,HF.out⟩
set_option maxRecDepth 100000 in
set_option maxHeartbeats 1000000 in
theorem zSt (Q:zCJ K) (h:Sk K tP t most g off mult mn mx ps ns z c s k l lo hi SP SN pe pd pt pm pp pn w) (hp:Few kind most ps) (hn:Few kind most ns) (hz:z<1000000) (hne:(decide (z=0)&&(ps.isEmpty&&ns.isEmpty))=false) :
    Calls Tryz.prog 31 #[.pointer (some ⟨pe,0,none⟩)] w fun e w'=>e = .returned (.tuple #[.float .f64 hi,.nilIface])∧zTY K tP t most g off mult mn mx ps ns z c s k l lo hi SP SN pe pd pt pm pp pn w w':=by
  have HE:=zJ0 Q h.dd hp hn hz
  rw [hne] at HE
  have e0:=cell_of_row _ _ 0 _ _ _ h.be
  have HS:=Lib.hid h
  clear h hp hn hz hne
  go_enter Tryz.func31,Tryz.ntmps31
  go_wp2_with fail
  refine HE.mono ?_
  clear HE e0
  rintro e w1 ⟨rfl,hd,hf⟩
  have hs1:=HS.out.of hd hf (fun _ hb=>.inl hb) (fun _ hb=>.inl hb)
  have e1:=cell_of_row _ _ 1 _ _ _ hs1.be
  have HM:=zHH pt c s k l lo hi w1 hs1.bt
  have H1:=Lib.hid hs1
  have HF:=Lib.hid hf
  clear hs1 hd hf
  go_wp2_with (go_at_call 46; (with_reducible refine HM.mono ?_); rintro e wa ⟨rfl,rfl⟩)
  go_ret2
  exact ⟨rfl,H1.out,HF.out⟩
set_option maxRecDepth 100000 in
theorem zNP (h:Sk K tP t most g off mult mn mx ps ns z c s k l lo hi SP SN pe pd pt pm pp pn w) :
    Calls Tryz.prog 32 #[.pointer (some ⟨pe,0,none⟩)] w fun e w'=>e = .returned (.float .f64 c)∧w=w':=by
  have e1:=cell_of_row _ _ 1 _ _ _ h.be
  have HM:=zI6 pt c s k l lo hi w h.bt
  clear h
  go_enter Tryz.func32,Tryz.ntmps32
  go_wp2_with (go_at_call 49; (with_reducible refine HM.mono ?_); rintro e wa ⟨rfl,rfl⟩)
  go_ret
  exact ⟨rfl,rfl⟩
set_option maxRecDepth 100000 in
theorem zSr (h:Sk K tP t most g off mult mn mx ps ns z c s k l lo hi SP SN pe pd pt pm pp pn w) (x:Nat) (hx:fadd s k=some x) (hn:zA7 x=true) :
    Calls Tryz.prog 33 #[.pointer (some ⟨pe,0,none⟩)] w fun e w'=>e = .returned (.float .f64 x)∧∃ n,w'=w.drewN n:=by
  have e1:=cell_of_row _ _ 1 _ _ _ h.be
  have HM:=zKP pt c s k l lo hi x w h.bt hx hn
  clear h hx hn
  go_enter Tryz.func33,Tryz.ntmps33
  go_wp2_with (go_at_call 50; (with_reducible refine HM.mono ?_); rintro e wa ⟨rfl,n,rfl⟩)
  go_ret
  exact ⟨rfl,n,rfl⟩
end
end Go.Proofs.YtllaekopaglolaaGreat
end
