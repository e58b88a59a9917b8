/-
  The sparse store's indexes,sorted.
-/
import Derived.Test.YtllaekopaglolaaGreatGAQ
import Derived.Sort.OwnSortedInts
import Derived.Test.YtllaekopaglolaaGreatGAM
import Derived.Deep.RegionLaw
import Derived.RegionTactic
import Derived.Shelf.SlGeneric
import Derived.Shelf.SlSortCmp.NoneTotal
import Derived.Ground.SlsfProg
import Derived.Test.YtllaekopaglolaaGreatProg
section
namespace Go.Proofs.YtllaekopaglolaaGreat
open Go.RowKit Go.Maps
theorem Tryz.infoInt:(Tryz.prog.info? 3).map (fun i=>(i.zero,i.size,i.bytes))=some (some (.int .i64 0),1,8):=by kernel_rfl
def Met (f:Int→Nat) (left:Lit→Bool) (zs:List Int):Prop:=zs.Nodup∧∀ i,i∈zs↔0<f i∧left (.int .i64 i)=false
theorem Met.start {f:Int→Nat} {D:DataW Unit} (hm:MapIs f D):Met f (Maps.has D) [] :=
  ⟨List.nodup_nil,fun i=>⟨(fun h=>by cases h),(fun h=>by rw [hm.has,decide_eq_true h.1] at h; cases h.2)⟩⟩
theorem Met.step {f:Int→Nat} {left:Lit→Bool} {zs:List Int} (h:Met f left zs) {x:Int} (hx:left (.int .i64 x)=true) (hp:0<f x):Met f (fun z=>left z && !z.sameKey (.int .i64 x)) (zs++[x]):=by
  refine ⟨?_,fun i=>?_⟩
  · rw [List.nodup_append]
    refine ⟨h.1,by simp,fun a ha b hb=>?_⟩
    simp at hb; subst hb
    intro e; subst e
    have:=((h.2 a).1 ha).2
    rw [hx] at this; cases this
  · rw [List.mem_append,List.mem_singleton,h.2 i]
    by_cases hi:i=x
    · subst hi; simp [Lit.sameKey,hp]
    · have:(Lit.int .i64 i).sameKey (.int .i64 x)=false:=sameKey_ne (by intro e; cases e; exact hi rfl)
      simp [this,hi]
def IdxRel (f:Int→Nat) (D:DataW Unit) (b r k:Nat) (w wr:World) (v:Value):Prop :=
  ∃ (left:Lit→Bool) (cnt:Nat) (zs:List Int) (ar:Option Addr) (cr:Nat),v = .slice ar zs.length cr∧wr.ranges Tryz.prog 3 cntR b r k D left cnt∧zs.length+cnt≤Maps.size D∧Met f left zs ∧
    wr.ownsRow 0 3 1 (.slice ar zs.length cr) zs.length (zs.map (Value.int .i64))∧(∀ g,(Value.slice ar zs.length cr).ownBlock=some g→w.heap.size+1≤g)∧Below w.heap.size w wr
def GivesIdx (f:Int→Nat) (w:World) (e:Ending) (w':World):Prop :=
  ∃ (zs:List Int) (ar:Option Addr) (cr:Nat),e = .returned (.slice ar zs.length cr)∧w'.ownsRow 0 3 1 (.slice ar zs.length cr) zs.length (zs.map (Value.int .i64))∧(∀ g,(Value.slice ar zs.length cr).ownBlock=some g→w.heap.size+1≤g)∧Below w.heap.size w w' ∧
    zs.Nodup∧(∀ i,i∈zs↔0<f i)∧zs.Pairwise (· ≤ ·)
set_option maxRecDepth 100000 in
set_option maxHeartbeats 400000 in
theorem sorted_any (f:Int→Nat) (D:DataW Unit) (b k:Nat) (w:World) (ho:w.ownsMap Tryz.prog 3 cntR b k D) (hm:MapIs f D) (hk:Maps.size D≤1000000) :
    Calls Tryz.prog 208 #[.map (some b)] w fun e w'=>GivesIdx f w e w':=by
  have hbl:=ho.lt
  have HM:=Lib.hid hm
  clear hm
  go_enter Tryz.func208,Tryz.ntmps208
  go_wp2_with (at_range; refine wpList_range_own _ rfl _ 125 rfl 3 29 Tryz.keyed Tryz.underlying125 cntR b k D rfl ho ?_; intro w0 hrg0 hg0 hs0)
  go_frame
  go_loopw [3] (fun v wr=>IdxRel f D b w.heap.size k w wr v) (fun _ wr=>wr.rangeLeft b w.heap.size)
  case atStart =>
    exact ⟨_,_,[],none,0,rfl,hrg0,by simp,Met.start HM.out,World.ownsRow_nil _ _ _ _,(fun g h=>by simp [Value.ownBlock] at h),(Below.refl _ _).grown hg0 (Nat.le_refl _) (fun j hj=>by cases hj)⟩
  case round =>
    obtain ⟨left,cnt,zs,ar,cr,rfl,hrg,hcs,hC,hown,hbase,hnx⟩:=hrel
    have HBS:=Lib.hid hbase
    clear hbase
    have HC:=Lib.hid hC
    have HO:=Lib.hid hown
    have HX:=Lib.hid hnx
    have HG:=Lib.hid hrg
    clear hC hnx
    go_wp2_with (at_next; refine wpList_next_ranges _ rfl _ rfl 3 Tryz.keyed cntR (Value.int .i64) (Value.float .f64) (fun key kl h=>by obtain ⟨i,h1,_⟩:=keyOf_int_inv h; exact ⟨i,h1⟩) (fun v y h=>by obtain ⟨c,h1,_⟩:=cntR_inv h; exact ⟨c,h1⟩) b w.heap.size k _ _ _ rfl hrg ?_ ?_)
    · intro hc0 hl0
      clear hrg hown
      have hset:∀ i,i∈zs↔0<f i:=fun i=>by rw [HC.out.2 i]; simp [hl0]
      have HSET:=Lib.hid hset
      clear hset
      rcases HO.out.2 with ⟨hv,hl⟩ | ⟨g,cap,cur,hv,hb,hg,hn,hmx,hsz,ht⟩
      · obtain ⟨rfl,hz0,rfl⟩:ar=none∧zs.length=0∧cr=0:=by simpa using hv
        have hzs:zs=[]:=List.eq_nil_of_length_eq_zero hz0
        rw [hz0]
        have HS:=fun w=>Tryz.slices_Sort_int_none none 0 w
        clear hv hl
        go_wp2_with (go_at_call 211; (with_reducible refine (HS _).mono ?_); rintro e w7 ⟨rfl,rfl⟩)
        go_ret
        subst hzs
        exact ⟨[],none,0,rfl,World.ownsRow_nil _ _ _ _,(fun g h=>by simp [Value.ownBlock] at h),HX.out,List.nodup_nil,HSET.out,List.Pairwise.nil⟩
      · obtain ⟨rfl,rfl⟩:ar=some ⟨g,0,none⟩∧cr=cap:=by simpa using hv
        rw [Nat.mul_one] at ht
        have hH:=holds_of_blockI hg ht
        have HS:=Tryz.slices_Sort_int g 0 cr zs wr hH (lt_of_block hg) (by omega)
        have HG2:=Lib.hid hg
        have HSZ:=Lib.hid hsz
        clear hg hH hsz ht HG
        go_wp2_with (go_at_call 211; (with_reducible refine HS.mono ?_); rintro e w7 ⟨rfl,nn,os,rfl⟩)
        go_ret
        have hp:=List.mergeSort_perm zs (fun x y=>decide (x≤y))
        have hrow:=ownsRow_sortedI (base:=0) (n:=nn) (os:=os) hp.length_eq hb HG2.out hn hmx HSZ.out
        have hgr:=grownBy_sortedI (w:=wr) (g:=g) (n:=nn) (os:=os) (zs.mergeSort fun x y=>decide (x≤y)).toArray
        have hl:=hp.length_eq
        refine ⟨zs.mergeSort fun x y=>decide (x≤y),some ⟨g,0,none⟩,cr,by rw [hl]; rfl,by rw [hl]; exact hrow,(fun k hk=>HBS.out k (by rw [← hk]; rfl)),HX.out.grown hgr HX.out.size (fun j hj=>by cases hj; have:=HBS.out g rfl; omega),hp.nodup_iff.2 HC.out.1,fun i=>by rw [hp.mem_iff]; exact HSET.out i,?_⟩
        have h:=List.pairwise_mergeSort (le:=fun x y:Int=>decide (x≤y)) (fun a b c h1 h2=>by simp at h1 h2 ⊢; omega) (fun a b=>by simp; omega) zs
        exact h.imp (fun h=>by simpa using h)
    · intro x c kl y y2 w1 cnt1 hkey hlx hy hat hrg1 hlt hg1 hs1 hen
      obtain ⟨i,e1,rfl,hwf⟩:=keyOf_int_inv hkey
      cases e1
      have hpx:0<f x:=by
        have h1:=has_true_of_atKey hat
        rw [HM.out.has] at h1
        exact of_decide_eq_true h1
      have hC2:=HC.out.step hlx hpx
      have hnb:(Value.slice ar zs.length cr).ownBlock=none∨(Value.slice ar zs.length cr).ownBlock≠some w.heap.size:=by
        right; intro e; have:=HBS.out _ e; omega
      have hown1:=hown.kept hg1 hnb
      have HC2:=Lib.hid hC2
      have HG1:=Lib.hid hg1
      have HR1:=Lib.hid hrg1
      have HR0:=Lib.hid hrg
      have hlen:zs.length<1000000:=by omega
      have HS1:=Lib.hid hs1
      clear hs1 hC2 hg1 hrg hrg1 hown hat hy hnb
      go_wp2_with (at_builtin; refine wpList_append_one w1 (Value.int .i64 x) rfl _ _ 128 3 rfl (.int .i64 0) 8 Tryz.underlying128 Tryz.infoInt rfl rfl (.slice ar zs.length cr) zs.length (zs.map (Value.int .i64)) rfl hown1 rfl (by omega) (by decide) ?_; intro ao1 cp1 w2 hown2 hgrow hblk)
      have hrg2:=(HR1.out.alloc (.cells #[.int .i64 x] 3)).kept hgrow (fun e=>by have:=HBS.out b e.symm; omega) (fun e=>by have:=HBS.out _ e.symm; omega)
      have HR2:=Lib.hid hrg2
      have HW2:=Lib.hid hown2
      have HGW:=Lib.hid hgrow
      have HBK:=Lib.hid hblk
      clear hrg2 hown2 hgrow hblk hown1 hen
      go_wp2
      go_roundw
      case rel =>
        refine ⟨_,cnt1,zs++[x],ao1,cp1,by rw [List.length_append]; rfl,HR2.out,by rw [List.length_append]; simp; omega,HC2.out,?_,?_,?_⟩
        · have h:=HW2.out
          rw [List.length_append,List.map_append]
          exact h
        · intro g hg
          rw [List.length_append] at hg
          rcases HBK.out with h | h
          · exact HBS.out g (by rw [← h,← hg]; rfl)
          · have h2:(Value.slice ao1 (zs.length+[x].length) cp1).ownBlock=some (w1.heap.size+1):=by rw [← h]; rfl
            rw [hg] at h2
            have:=Option.some.inj h2
            have:=HS1.out
            have:=HX.out.size
            omega
        · have h1:=HX.out.grown HG1.out HX.out.size (fun j hj=>by cases hj; exact Nat.le_refl _)
          exact (h1.alloc h1.size _).grown HGW.out (by simp; have:=h1.size; omega) (fun j hj=>by have:=HBS.out j hj; omega)
      case measure=>rw [HR2.out.left_eq,HR0.out.left_eq]; exact hlt
end Go.Proofs.YtllaekopaglolaaGreat
end
/-
  Bins summed,plainly: each index once,in growing order. No program in sight.
-/
section
namespace Go.Proofs.YtllaekopaglolaaGreat
abbrev Bins:=List (Int × Nat)
def insB (i:Int) (n:Nat):Bins→Bins
  | []=>[(i,n)]
  | p :: t=>if i<p.1 then (i,n) :: p :: t else if i=p.1 then (p.1,p.2+n) :: t else p :: insB i n t
def summed (xs:Bins):Bins:=xs.foldl (fun l p=>insB p.1 p.2 l) []
def Asc (l:Bins):Prop:=l.Pairwise fun p q=>p.1<q.1
theorem asc_cons {p:Int × Nat} {t:Bins}:Asc (p :: t)↔(∀ q∈t,p.1<q.1)∧Asc t:=List.pairwise_cons
end Go.Proofs.YtllaekopaglolaaGreat
end
/-
  spec.Summed walked. (The part that speaks of no program.)
-/
section
namespace Go.Proofs.YtllaekopaglolaaGreat
open Go.RowKit
theorem below_drewN {B:Nat} {a w:World} (h:Below B a w) (n:Nat):Below B a (w.drewN n):=⟨h.os,h.tape,h.output,h.size,h.block⟩
theorem run_slice_tailN {P:Program} (t e:TypeId) (ht:P.underlying t=some (.slice e)) (size:Nat) (g off n c m:Nat) (h1:m≤n) (_h2:n≤c) (hz:∀ w,(sizeOf e).run P w = .ok size w) :
    ∃ ao,(m=c∨ao=some ⟨g,off+m*size,none⟩)∧∀ w,(Instr.slice t (.slice (some ⟨g,off,none⟩) n c) (some (.int .i64 (m:Int))) none none).run P w = .ok (.slice ao (n - m) (c - m)) w:=by
  have hh:(m:Int)≤(n:Int):=by omega
  by_cases hne:c=m
  · subst hne
    refine ⟨some ⟨g,off,none⟩,.inl rfl,fun w=>?_⟩
    simp [Instr.slice,run_underlying ht,Instr.sliceBounds,go_sem,hh,hz]
  · refine ⟨some ⟨g,off+m*size,none⟩,.inr rfl,fun w=>?_⟩
    simp [Instr.slice,run_underlying ht,Instr.sliceBounds,go_sem,hh,hz,hne]
theorem run_slice_end {P:Program} (t e:TypeId) (ht:P.underlying t=some (.slice e)) (size:Nat) (ao:Option Addr) (n c m:Nat) (h1:m=n) (h2:n≤c) (hz:∀ w,(sizeOf e).run P w = .ok size w) :
    ∃ ao',∀ w,(Instr.slice t (.slice ao n c) (some (.int .i64 (m:Int))) none none).run P w = .ok (.slice ao' 0 (c - m)) w:=by
  subst h1
  by_cases hne:c=m
  · subst hne
    refine ⟨ao,fun w=>?_⟩
    cases ao <;> simp [Instr.slice,run_underlying ht,Instr.sliceBounds,go_sem,hz]
  · cases ao with
    | none=>refine ⟨none,fun w=>?_⟩; simp [Instr.slice,run_underlying ht,Instr.sliceBounds,go_sem,hz]
    | some a=>refine ⟨some (a.add (m*size)),fun w=>?_⟩; simp [Instr.slice,run_underlying ht,Instr.sliceBounds,go_sem,hz,hne]
theorem run_append_none {P:Program} (t ty e:TypeId) (ht:P.underlying t=some (.slice e)) (i:TypeInfo) (hi:P.info? e=some i) (ao:Option Addr) (n c:Nat) (a2:Option Addr) (c2:Nat) (w:World) (hn:n≤c) :
    (Builtin.append_ #[t,t] ty #[.slice ao n c,.slice a2 0 c2]).run P w = .ok (.slice ao n c) w:=by
  cases a2 <;> cases ao <;> simp [Builtin.append_,run_underlying ht,sizeOf,typeInfo,hi,Builtin.lenOf,hn,Builtin.firstCells,loadCells,loadCellsFrom,storeCells]
section
variable {P:Program} (w:World)
theorem wp_append_none {o:Oper} {a:Act} {K:Act→World→Prop} {Q:Exit→Act→World→Prop} (s x:Operand) (t:TypeId)
    (ho:o.op = .call { callee:=.builtin .append,args:=#[s,x],argTypes:=#[t,t] }) (e:TypeId) (i:TypeInfo) (ht:P.underlying t=some (.slice e)) (hi:P.info? e=some i)
    (v:Value) (hs:a.eval s=v) (hv:∃ ao n c,v = .slice ao n c∧n≤c) (a2:Option Addr) (c2:Nat) (hx:a.eval x = .slice a2 0 c2) (h:K (a.put o.dst v) w):o.wp P a w K Q:=by
  obtain ⟨ao,n,c,rfl,hn⟩:=hv
  have hr:=run_append_none (P:=P) t o.type e ht i hi ao n c a2 c2 w hn
  unfold Oper.wp execOp
  simp only [ho,resolve,invoke,builtin,Sem.run_bind,Sem.run_pure,Result.andThen_ok,List.map_toArray,List.map_cons,List.map_nil,hs,hx,hr]
  exact h
end
theorem own2_lt {e:TypeId} {w:World} {v:Value} {n:Nat} {xs:List Value} (h:w.ownsRow 0 e 2 v n xs):∀ k,v.ownBlock=some k→k<w.heap.size:=fun k hk=>(h.lt k hk).2
theorem own_same (ao:Option Addr) (n c n' c':Nat):(Value.slice ao n c).ownBlock=(Value.slice ao n' c').ownBlock:=by cases ao <;> rfl
end Go.Proofs.YtllaekopaglolaaGreat
end
/-
  spec.Lowest,spec.Highest,spec.Kept walked. (Printed by gen_kept.py.) (The part that speaks of no program.)
-/
section
namespace Go.Proofs.YtllaekopaglolaaGreat
open Go.RowKit
def InR (xs:Bins):Prop:=∀ p∈xs,-10000≤p.1∧p.1≤10000
def lastI (xs:Bins):Int:=match xs.getLast? with | some p=>p.1 | none=>0
def firstI (xs:Bins):Int:=match xs.head? with | some p=>p.1 | none=>0
def liftB (least:Int) (xs:Bins):Bins:=xs.map fun p=>(max p.1 least,p.2)
def dropB (greatest:Int) (xs:Bins):Bins:=xs.map fun p=>(min p.1 greatest,p.2)
def lowB (most:Int) (xs:Bins):Bins:=if xs=[] then [] else summed (liftB (lastI xs - most+1) xs)
def highB (most:Int) (xs:Bins):Bins:=if xs=[] then [] else summed (dropB (firstI xs+most - 1) xs)
def keptB (kind most:Int) (xs:Bins):Bins:=if kind=3 then lowB most (summed xs) else if kind=4 then highB most (summed xs) else summed xs
end Go.Proofs.YtllaekopaglolaaGreat
end
/-
  Bins and counts,plainly: the counts of bins,of what is kept of them. No program in sight.
-/
section
namespace Go.Proofs.YtllaekopaglolaaGreat
def cntB:Bins→Int→Nat
  | []=>fun _=>0
  | p :: t=>addAt (cntB t) p.1 p.2
theorem addAt_comm (f:Int→Nat) (i j:Int) (c d:Nat):addAt (addAt f i c) j d=addAt (addAt f j d) i c:=by
  funext k
  simp only [addAt]
  split <;> split <;> omega
def plusB (f:Int→Nat) (xs:Bins):Int→Nat:=xs.foldl (fun f p=>addAt f p.1 p.2) f
theorem plusB_addAt (xs:Bins):∀ (f:Int→Nat) (i:Int) (c:Nat),plusB (addAt f i c) xs=addAt (plusB f xs) i c:=by
  induction xs with
  | nil=>intro f i c; rfl
  | cons p t ih =>
    intro f i c
    show plusB (addAt (addAt f i c) p.1 p.2) t=addAt (plusB (addAt f p.1 p.2) t) i c
    rw [addAt_comm,ih]
theorem plusB_zero (xs:Bins):plusB (fun _=>0) xs=cntB xs:=by
  induction xs with
  | nil=>rfl
  | cons p t ih =>
    show plusB (addAt (fun _=>0) p.1 p.2) t=addAt (cntB t) p.1 p.2
    rw [plusB_addAt,ih]
theorem cntB_snoc (xs:Bins) (p:Int × Nat):cntB (xs++[p])=addAt (cntB xs) p.1 p.2:=by
  rw [← plusB_zero,← plusB_zero]
  unfold plusB
  rw [List.foldl_append]
  rfl
theorem cntB_insB (i:Int) (n:Nat):∀ l:Bins,cntB (insB i n l)=addAt (cntB l) i n
  | []=>rfl
  | p :: t=>by
    unfold insB
    split
    · rfl
    · split
      · rename_i h
        funext k
        simp only [cntB,addAt]
        rw [← h]
        split <;> omega
      · show addAt (cntB (insB i n t)) p.1 p.2=addAt (addAt (cntB t) p.1 p.2) i n
        rw [cntB_insB i n t,addAt_comm]
theorem cntB_summed (xs:Bins):cntB (summed xs)=cntB xs:=by
  have:∀ (xs l:Bins),cntB (xs.foldl (fun l p=>insB p.1 p.2 l) l)=plusB (cntB l) xs:=by
    intro xs
    induction xs with
    | nil=>intro l; rfl
    | cons p t ih =>
      intro l
      show cntB (t.foldl _ (insB p.1 p.2 l))=plusB (addAt (cntB l) p.1 p.2) t
      rw [ih,cntB_insB]
  show cntB (xs.foldl (fun l p=>insB p.1 p.2 l) [])=_
  rw [this xs [],← plusB_zero xs]
  rfl
theorem cntB_lift (m:Int):∀ {xs:Bins},InR xs→cntB (liftB m xs)=sqL (cntB xs) m
  | [],_=>by
    rw [show liftB m []=[] from rfl,sqL_none]
    · intro i _; rfl
    · intro i _; rfl
  | p :: t,h=>by
    show addAt (cntB (liftB m t)) (max p.1 m) p.2=sqL (addAt (cntB t) p.1 p.2) m
    rw [cntB_lift m (fun q hq=>h q (List.mem_cons_of_mem _ hq)),sqL_addAt _ _ _ _ (h p List.mem_cons_self).1]
theorem cntB_none:∀ {l:Bins} {x:Int},(∀ p∈l,p.1≠x)→cntB l x=0
  | [],_,_=>rfl
  | p :: t,x,h=>by
    show (if x=p.1 then _ else cntB t x)=0
    rw [if_neg (fun e=>h p List.mem_cons_self e.symm),cntB_none (fun q hq=>h q (List.mem_cons_of_mem _ hq))]
theorem cntB_inR {xs:Bins} (h:InR xs) (i:Int) (hi:i < -10000∨10000<i):cntB xs i=0 :=
  cntB_none (fun p hp e=>by have:=h p hp; omega)
def Pos (l:Bins):Prop:=∀ p∈l,0<p.2
theorem filter_succ (x:Int):∀ {l:Bins},Asc l→l.filter (fun p=>decide (p.1<x+1))=l.filter (fun p=>decide (p.1<x))++l.filter (fun p=>decide (p.1=x))
  | [],_=>rfl
  | p :: t,h=>by
    obtain ⟨h1,h2⟩:=asc_cons.1 h
    have ih:=filter_succ x h2
    by_cases c1:p.1<x
    · rw [List.filter_cons_of_pos (by simp; omega),List.filter_cons_of_pos (by simp; omega),List.filter_cons_of_neg (by simp; omega),ih]; rfl
    · have e1:t.filter (fun p=>decide (p.1<x))=[]:=List.filter_eq_nil_iff.2 (fun q hq=>by have:=h1 q hq; simp; omega)
      by_cases c2:p.1=x
      · rw [List.filter_cons_of_pos (by simp; omega),List.filter_cons_of_neg (by simp; omega),List.filter_cons_of_pos (by simp; omega),ih,e1]; rfl
      · rw [List.filter_cons_of_neg (by simp; omega),List.filter_cons_of_neg (by simp; omega),List.filter_cons_of_neg (by simp; omega),ih]
theorem cum_filter (x:Int):∀ {l:Bins},InR l→cum (cntB l) x=tot (l.filter (fun p=>decide (p.1<x)))
  | [],_=>cum_none _ _ (fun _ _=>rfl)
  | p :: t,h=>by
    show cum (addAt (cntB t) p.1 p.2) x=_
    rw [cum_addAt _ _ _ _ (h p List.mem_cons_self).1,cum_filter x (fun q hq=>h q (List.mem_cons_of_mem _ hq))]
    by_cases c:p.1<x
    · rw [if_pos c,List.filter_cons_of_pos (by simp; omega),tot]; omega
    · rw [if_neg c,List.filter_cons_of_neg (by simp; omega)]; rfl
theorem tot2_cnt:∀ {l:Bins},InR l→tot2 (cntB l)=tot l
  | [],_=>cum_none _ _ (fun _ _=>rfl)
  | p :: t,h=>by
    show tot2 (addAt (cntB t) p.1 p.2)=p.2+tot t
    rw [tot2_addAt _ _ _ (h p List.mem_cons_self).1 (h p List.mem_cons_self).2,tot2_cnt (fun q hq=>h q (List.mem_cons_of_mem _ hq))]; omega
theorem KeyIs.unique {f:Int→Nat} {r:Nat} {a b:Int} (h1:KeyIs f r a) (h2:KeyIs f r b):a=b:=by
  rcases Int.lt_trichotomy a b with h | h | h
  · have:=h2.2 a h; rw [h1.1] at this; cases this
  · exact h
  · have:=h1.2 b h; rw [h2.1] at this; cases this
theorem keyF_is {l:Bins} (ha:Asc l) (hr:InR l) (r:Nat) (h0:fgt2 (nf 0) r=false) (ht:fgt2 (nf (tot l)) r=true) (hne:l≠[]):KeyIs (cntB l) r (keyF r 0 l):=by
  have key:∀ (t pre:Bins),l=pre++t→t≠[]→(∀ x,(∀ p∈t,x<p.1)→fgt2 (nf (cum (cntB l) (x+1))) r=false)→KeyIs (cntB l) r (keyF r (tot pre) t):=by
    intro t
    induction t with
    | nil=>intro pre _ h; exact absurd rfl h
    | cons p t ih =>
      intro pre e _ hx
      have hasc:∀ q∈t,p.1<q.1:=by
        rw [e] at ha
        exact (asc_cons.1 (List.pairwise_append.1 ha).2.1).1
      have hpre:∀ q∈pre,q.1<p.1:=by
        rw [e] at ha
        exact fun q hq=>(List.pairwise_append.1 ha).2.2 q hq p List.mem_cons_self
      have hcum:∀ x,p.1≤x→(∀ q∈t,x<q.1)→cum (cntB l) (x+1)=tot pre+p.2:=by
        intro x h1 h2
        rw [cum_filter _ hr,e,List.filter_append,List.filter_cons_of_pos (by simp; omega),List.filter_eq_self.2 (fun q hq=>by have:=hpre q hq; simp; omega),List.filter_eq_nil_iff.2 (fun q hq=>by have:=h2 q hq; simp; omega),tot_append]
        rfl
      rw [keyF]
      by_cases c:fgt2 (nf (tot pre+p.2)) r=true
      · rw [if_pos (by rw [c]; rfl)]
        refine ⟨by rw [hcum p.1 (Int.le_refl _) hasc]; exact c,fun x hxp=>hx x (fun q hq=>?_)⟩
        rcases List.mem_cons.1 hq with rfl | hq
        · exact hxp
        · have:=hasc q hq; omega
      · have c':fgt2 (nf (tot pre+p.2)) r=false:=by simpa using c
        cases t with
        | nil =>
          exfalso
          have e2:tot l=tot pre+p.2:=by rw [e,tot_append]; rfl
          rw [e2,c'] at ht; cases ht
        | cons q s =>
          rw [if_neg (by rw [c']; simp)]
          have e3:tot pre+p.2=tot (pre++[p]):=by rw [tot_append]; rfl
          rw [e3]
          refine ih (pre++[p]) (by rw [e,List.append_assoc]; rfl) (by simp) (fun x hxq=>?_)
          by_cases hxp:x<p.1
          · refine hx x (fun z hz=>?_)
            rcases List.mem_cons.1 hz with rfl | hz
            · exact hxp
            · have:=hasc z hz; omega
          · rw [hcum x (by omega) hxq]; exact c'
  refine key l [] rfl hne (fun x hx=>?_)
  rw [cum_filter _ hr,List.filter_eq_nil_iff.2 (fun q hq=>by have:=hx q hq; simp; omega)]
  exact h0
end Go.Proofs.YtllaekopaglolaaGreat
end
/-
  The sparse store: TotalCount,MinIndex,MaxIndex.
-/
section
namespace Go.Proofs.YtllaekopaglolaaGreat
open Go.RowKit Go.Maps
def LieI (w:World) (ar:Option Addr) (zs:List Int):Prop:=zs=[]∨∃ g,ar=some ⟨g,0,none⟩∧∀ k,(h:k<zs.length)→w.cell? ⟨g,k,none⟩=some (.int .i64 zs[k])
theorem lieI_of {w:World} {ar:Option Addr} {cr:Nat} {zs:List Int} (h:w.ownsRow 0 3 1 (.slice ar zs.length cr) zs.length (zs.map (Value.int .i64))):LieI w ar zs∧∀ g,ar=some ⟨g,0,none⟩→g<w.heap.size:=by
  rcases id h.2 with ⟨hv,hl⟩ | ⟨g,cap,cur,hv,hb,hg,hn,hmx,hsz,ht⟩
  · obtain ⟨rfl,hz0,rfl⟩:ar=none∧zs.length=0∧cr=0:=by simpa using hv
    exact ⟨.inl (List.eq_nil_of_length_eq_zero hz0),(fun g e=>by cases e)⟩
  · obtain ⟨rfl,rfl⟩:ar=some ⟨g,0,none⟩∧cr=cap:=by simpa using hv
    refine ⟨.inr ⟨g,rfl,fun k hk=>?_⟩,fun g' e=>by cases e; exact lt_of_block hg⟩
    have h2:=World.ownsRow.cells h (g:=g) rfl k (.int .i64 zs[k]) (by rw [List.getElem?_map,List.getElem?_eq_getElem hk]; rfl)
    have hadd:(⟨g,0,none⟩:Addr).add k=⟨g,k,none⟩:=by unfold Addr.add; split <;> simp_all
    rwa [hadd] at h2
theorem grown_of_below {w w':World} (h:Below w.heap.size w w'):w.grownBy w' none:=⟨h.1,h.2,h.3,h.size,fun k hk _=>h.5 k hk⟩
def binsOf (f:Int→Nat) (zs:List Int):Bins:=zs.map fun i=>(i,f i)
theorem binsOf_length (f:Int→Nat) (zs:List Int):(binsOf f zs).length=zs.length:=List.length_map _
theorem binsOf_get (f:Int→Nat) (zs:List Int) (k:Nat) (h:k<zs.length):(binsOf f zs)[k]'(by rw [binsOf_length]; exact h)=(zs[k],f zs[k]):=by simp [binsOf]
theorem cnt_binsOf (f:Int→Nat):∀ {zs:List Int},zs.Nodup→∀ x,cntB (binsOf f zs) x=if x∈zs then f x else 0
  | [],_,_=>rfl
  | z :: t,h,x=>by
    obtain ⟨h1,h2⟩:=List.nodup_cons.1 h
    show (if x=z then cntB (binsOf f t) x+f z else cntB (binsOf f t) x)=_
    rw [cnt_binsOf f h2 x]
    by_cases c:x=z
    · subst c; rw [if_pos rfl,if_neg h1,if_pos List.mem_cons_self,Nat.zero_add]
    · rw [if_neg c]
      by_cases c2:x∈t
      · rw [if_pos c2,if_pos (List.mem_cons_of_mem _ c2)]
      · rw [if_neg c2,if_neg (by simp [c,c2])]
theorem binsOf_cnt {f:Int→Nat} {zs:List Int} (hd:zs.Nodup) (hm:∀ i,i∈zs↔0<f i):cntB (binsOf f zs)=f:=by
  funext x
  rw [cnt_binsOf f hd]
  by_cases c:x∈zs
  · rw [if_pos c]
  · rw [if_neg c]
    exact (Nat.eq_zero_of_not_pos (fun h=>c ((hm x).2 h))).symm
theorem binsOf_asc {f:Int→Nat} {zs:List Int} (hd:zs.Nodup) (hs:zs.Pairwise (· ≤ ·)):Asc (binsOf f zs):=by
  unfold binsOf Asc
  rw [List.pairwise_map]
  exact (List.pairwise_and_iff.2 ⟨hs,hd⟩).imp (fun h=>by show _<_; have:=h.1; have:=h.2; omega)
theorem binsOf_pos {f:Int→Nat} {zs:List Int} (hm:∀ i,i∈zs↔0<f i):Pos (binsOf f zs):=by
  intro p hp
  obtain ⟨i,hi,rfl⟩:=List.mem_map.1 hp
  exact (hm i).1 hi
theorem binsOf_inR {f:Int→Nat} {zs:List Int} (hm:∀ i,i∈zs↔0<f i) (hz:∀ i,i < -10000∨10000<i→f i=0):InR (binsOf f zs):=by
  intro p hp
  obtain ⟨i,hi,rfl⟩:=List.mem_map.1 hp
  have h1:=(hm i).1 hi
  show -10000≤i∧i≤10000
  by_cases c:-10000≤i∧i≤10000
  · exact c
  · have:=hz i (by omega); omega
theorem pos_len:∀ {l:Bins},Pos l→l.length≤tot l
  | [],_=>Nat.le_refl _
  | p :: t,h=>by
    have h1:=h p List.mem_cons_self
    have h2:=pos_len (l:=t) (fun q hq=>h q (List.mem_cons_of_mem _ hq))
    show t.length+1≤p.2+tot t
    omega
def TotSRel (f:Int→Nat) (zs:List Int) (w wr:World) (v i:Value):Prop :=
  ∃ k,k≤zs.length∧i = .int .i64 (k:Int)∧v = .float .f64 (nf (tot ((binsOf f zs).take k)))∧wr=w
set_option maxRecDepth 100000 in
set_option maxHeartbeats 400000 in
theorem totalS_any (f:Int→Nat) (p b k:Nat) (w:World) (h:Sparse f p b k w) (hk:k≤1000000) (hz:∀ i,i < -10000∨10000<i→f i=0) (hs:tot2 f<9007199254740992) :
    Calls Tryz.prog 207 #[.pointer (some ⟨p,0,none⟩)] w fun e w'=>e = .returned (.float .f64 (nf (tot2 f)))∧Below w.heap.size w w':=by
  obtain ⟨hp,⟨D,ho,hm⟩,hne⟩:=h
  have d0:=cell_of_row _ _ 0 _ _ _ hp
  have HSO:=sorted_any f D b k w ho hm (Nat.le_trans ho.size_le hk)
  have hpl:=lt_of_block hp
  have HO:=Lib.hid ho
  have HM:=Lib.hid hm
  have HZ:=Lib.hid hz
  have HS:=Lib.hid hs
  clear hp ho hm hz hs hne
  go_enter Tryz.func207,Tryz.ntmps207
  go_wp2_with fail
  refine HSO.mono ?_
  clear HSO
  rintro e w1 ⟨zs,ar,cr,rfl,hrow,-,hbel,hnd,hmem,hsort⟩
  obtain ⟨hlie,hgl⟩:=lieI_of hrow
  have d1:w1.cell? ⟨p,0,none⟩=some (.map (some b)):=(hbel.cell hpl).trans d0
  have ho1:=HO.out.kept (grown_of_below hbel) (by simp)
  have hcnt:=binsOf_cnt hnd hmem
  have htot:tot (binsOf f zs)=tot2 f:=by rw [← tot2_cnt (binsOf_inR hmem HZ.out),hcnt]
  have hlen:zs.length<9007199254740992:=by
    have h1:=pos_len (binsOf_pos hmem)
    have h2:(binsOf f zs).length=zs.length:=by unfold binsOf; rw [List.length_map]
    have:=HS.out; omega
  have HB:=Lib.hid hbel
  have HL:=Lib.hid hlie
  have HT:=Lib.hid htot
  have HO1:=Lib.hid ho1
  have HR:Hid (∀ i∈zs,-10000≤i∧i≤10000):=fun i hi=>by
    have:=binsOf_inR hmem HZ.out (i,f i) (List.mem_map.2 ⟨i,hi,rfl⟩); exact this
  clear hrow hbel hnd hmem hsort hgl hlie d0 hcnt htot ho1
  go_wp2
  go_loopw [3,13] (fun v i wr=>TotSRel f zs w1 wr v i) (fun _ i _=>zs.length - (intOf i).toNat)
  case atStart=>exact ⟨0,by omega,rfl,by rw [List.take_zero,tot,nf_zero],rfl⟩
  case round =>
    obtain ⟨k,hk,rfl,rfl,rfl⟩:=hrel
    by_cases hlt:k<zs.length
    · rcases HL.out with h0 | ⟨g,rfl,hcell⟩
      · rw [h0] at hlt; simp at hlt
      have c0:=hcell k hlt
      have hkb:k<(binsOf f zs).length:=by unfold binsOf; rw [List.length_map]; exact hlt
      have hat:=binsOf_get f zs k hlt
      have hsu:=tot_succ (binsOf f zs) k hkb
      rw [hat] at hsu
      have hadd:=fun w:World=>run_float_arith (P:=Tryz.prog) w .add 29 .f64 _ _ _ (nf_add (tot ((binsOf f zs).take k)) (f zs[k]) (by have:=tot_take (binsOf f zs) (k+1); have:=HT.out; have:=HS.out; omega))
      rw [← show _=tot ((binsOf f zs).take k)+f zs[k] from hsu] at hadd
      have hr:=HR.out zs[k] (List.getElem_mem hlt)
      have hlook:=look_run HO1.out HM.out zs[k] (by omega) (by omega)
      obtain ⟨y,hy⟩:∃ y,y=nf (f zs[k]):=⟨_,rfl⟩
      obtain ⟨x,hx⟩:∃ x,x=zs[k]:=⟨_,rfl⟩
      rw [← hy] at hlook hadd
      rw [← hx] at hlook c0
      clear hy hx hat hsu hcell hr
      go_wp2
      go_roundw
      case rel=>exact ⟨k+1,by omega,by go_num,rfl,rfl⟩
      case measure=>simp [intOf]; omega
    · obtain rfl:k=zs.length:=by omega
      clear hlt
      go_wp2
      go_ret
      exact ⟨by rw [← HT.out,List.take_of_length_le (by unfold binsOf; rw [List.length_map]; exact Nat.le_refl _)]; rfl,HB.out⟩
end Go.Proofs.YtllaekopaglolaaGreat
end
/-
  The library's SortFunc at bins: its laying at this program (by the kit's tool lay-plain).
-/
section
namespace Go.Proofs
open Go.Shelf
def Tryz.sortBins_ren:Go.Shelf.Ren:=⟨fun | 6=>212 | 15=>215 | 14=>216 | 28=>226 | 29=>227 | 20=>228 | 21=>229 | 22=>230 | 23=>231 | 24=>232 | 25=>233 | 26=>234 | 27=>235 | 46=>242 | 47=>237 | 48=>238 | 49=>243 | 50=>244 | 57=>246 | n=>n,fun | 22=>187 | 24=>189 | 25=>194 | 3=>3 | 39=>82 | 0=>0 | 53=>160 | 55=>42 | 4=>4 | 46=>200 | 45=>199 | 50=>205 | 5=>5 | 9=>9 | 66=>214 | 70=>218 | 76=>223 | 77=>224 | n=>n,fun | n=>n⟩
theorem Tryz.sortBins:Go.Proofs.SlLaysF0.n6 Tryz.prog Tryz.sortBins_ren:={
  mixed:=by kernel_rfl
  f6:=⟨Tryz.f212.name,by decide,Tryz.func212.trans (congrArg some (by kernel_rfl))⟩
  f14:=⟨Tryz.f216.name,by decide,Tryz.func216.trans (congrArg some (by kernel_rfl))⟩
  f15:=Tryz.func215.trans (congrArg some (by kernel_rfl))
  f20:=⟨Tryz.f228.name,by decide,Tryz.func228.trans (congrArg some (by kernel_rfl))⟩
  f21:=⟨Tryz.f229.name,by decide,Tryz.func229.trans (congrArg some (by kernel_rfl))⟩
  f22:=⟨Tryz.f230.name,by decide,Tryz.func230.trans (congrArg some (by kernel_rfl))⟩
  f23:=⟨Tryz.f231.name,by decide,Tryz.func231.trans (congrArg some (by kernel_rfl))⟩
  f24:=⟨Tryz.f232.name,by decide,Tryz.func232.trans (congrArg some (by kernel_rfl))⟩
  f25:=⟨Tryz.f233.name,by decide,Tryz.func233.trans (congrArg some (by kernel_rfl))⟩
  f26:=⟨Tryz.f234.name,by decide,Tryz.func234.trans (congrArg some (by kernel_rfl))⟩
  f27:=⟨Tryz.f235.name,by decide,Tryz.func235.trans (congrArg some (by kernel_rfl))⟩
  f28:=Tryz.func226.trans (congrArg some (by kernel_rfl))
  f29:=Tryz.func227.trans (congrArg some (by kernel_rfl))
  f46:=⟨Tryz.f242.name,by decide,Tryz.func242.trans (congrArg some (by kernel_rfl))⟩
  f47:=Tryz.func237.trans (congrArg some (by kernel_rfl))
  f48:=Tryz.func238.trans (congrArg some (by kernel_rfl))
  f49:=⟨Tryz.f243.name,by decide,Tryz.func243.trans (congrArg some (by kernel_rfl))⟩
  f50:=⟨Tryz.f244.name,by decide,Tryz.func244.trans (congrArg some (by kernel_rfl))⟩
  f57:=⟨Tryz.f246.name,by decide,Tryz.func246.trans (congrArg some (by kernel_rfl))⟩
  t0:=Tryz.underlying0
  a0:=Tryz.isAgg0
  z0:=Tryz.sizeOf0
  v0:=Tryz.zeroValue0
  t3:=Tryz.underlying3
  a3:=Tryz.isAgg3
  z3:=Tryz.sizeOf3
  v3:=Tryz.zeroValue3
  t4:=Tryz.underlying4
  a4:=Tryz.isAgg4
  z4:=Tryz.sizeOf4
  v4:=Tryz.zeroValue4
  t5:=Tryz.underlying5
  a5:=Tryz.isAgg5
  z5:=Tryz.sizeOf5
  v5:=Tryz.zeroValue5
  t9:=Tryz.underlying9
  a9:=Tryz.isAgg9
  z9:=Tryz.sizeOf9
  v9:=Tryz.zeroValue9
  t22:=Tryz.underlying187
  a22:=Tryz.isAgg187
  z22:=Tryz.sizeOf187
  v22:=Tryz.zeroValue187
  t25:=Tryz.underlying194
  a25:=Tryz.isAgg194
  z25:=Tryz.sizeOf194
  v25:=Tryz.zeroValue194
  t39:=Tryz.underlying82
  a39:=Tryz.isAgg82
  z39:=Tryz.sizeOf82
  v39:=Tryz.zeroValue82
  t45:=Tryz.underlying199
  a45:=Tryz.isAgg199
  z45:=Tryz.sizeOf199
  v45:=Tryz.zeroValue199
  t46:=Tryz.underlying200
  a46:=Tryz.isAgg200
  z46:=Tryz.sizeOf200
  v46:=Tryz.zeroValue200
  t50:=Tryz.underlying205
  a50:=Tryz.isAgg205
  z50:=Tryz.sizeOf205
  v50:=Tryz.zeroValue205
  t53:=Tryz.underlying160
  a53:=Tryz.isAgg160
  z53:=Tryz.sizeOf160
  v53:=Tryz.zeroValue160
  t55:=Tryz.underlying42
  a55:=Tryz.isAgg42
  z55:=Tryz.sizeOf42
  v55:=Tryz.zeroValue42
  t66:=Tryz.underlying214
  a66:=Tryz.isAgg214
  z66:=Tryz.sizeOf214
  v66:=Tryz.zeroValue214
  t70:=Tryz.underlying218
  a70:=Tryz.isAgg218
  z70:=Tryz.sizeOf218
  v70:=Tryz.zeroValue218
  t76:=Tryz.underlying223
  a76:=Tryz.isAgg223
  z76:=Tryz.sizeOf223
  v76:=Tryz.zeroValue223
  t77:=Tryz.underlying224
  a77:=Tryz.isAgg224
  z77:=Tryz.sizeOf224
  v77:=Tryz.zeroValue224 }
end Go.Proofs
end
