/-
  The sparse store's indexes,sorted.
-/
import Derived.Test.YtllaekopaglolaaGreatHAQ
import Derived.Sort.OwnSortedInts
import Derived.Test.YtllaekopaglolaaGreatHAM
import Derived.Deep.RegionLaw
import Derived.RegionTactic
section
namespace Go.Proofs.YtllaekopaglolaaGreat
open Go.RowKit Go.Maps
theorem Tryz.infoInt:(Tryz.prog.info? 3).map (fun i=>(i.zero,i.size,i.bytes))=some (some (.int .i64 0),1,8):=by kernel_rfl
def Met (f:Int→Nat) (left:Lit→Bool) (zs:List Int):Prop:=zs.Nodup∧∀ i,i∈zs↔0<f i∧left (.int .i64 i)=false
theorem Met.start {f:Int→Nat} {D:DataW Unit} (hm:zHq f D):Met f (Maps.has D) [] :=
  ⟨List.nodup_nil,fun i=>⟨(fun h=>by cases h),(fun h=>by rw [hm.has,decide_eq_true h.1] at h; cases h.2)⟩⟩
theorem Met.step {f:Int→Nat} {left:Lit→Bool} {zs:List Int} (h:Met f left zs) {x:Int} (hx:left (.int .i64 x)=true) (hp:0<f x):Met f (fun z=>left z && !z.sameKey (.int .i64 x)) (zs++[x]):=by
  refine ⟨?_,fun i=>?_⟩
  · rw [List.nodup_append]
    refine ⟨h.1,by simp,fun a ha b hb=>?_⟩
    simp at hb; subst hb
    intro e; subst e
    have:=((h.2 a).1 ha).2
    rw [hx] at this; cases this
  · rw [List.mem_append,List.mem_singleton,h.2 i]
    by_cases hi:i=x
    · subst hi; simp [Lit.sameKey,hp]
    · have:(Lit.int .i64 i).sameKey (.int .i64 x)=false:=sameKey_ne (by intro e; cases e; exact hi rfl)
      simp [this,hi]
def zXS (f:Int→Nat) (D:DataW Unit) (b r k:Nat) (w wr:World) (v:Value):Prop :=
  ∃ (left:Lit→Bool) (cnt:Nat) (zs:List Int) (ar:Option Addr) (cr:Nat),v = .slice ar zs.length cr∧wr.ranges Tryz.prog 3 cntR b r k D left cnt∧zs.length+cnt≤Maps.size D∧Met f left zs ∧
    wr.ownsRow 0 3 1 (.slice ar zs.length cr) zs.length (zs.map (Value.int .i64))∧(∀ g,(Value.slice ar zs.length cr).ownBlock=some g→w.heap.size+1≤g)∧Below w.heap.size w wr
def zVG (f:Int→Nat) (w:World) (e:Ending) (w':World):Prop :=
  ∃ (zs:List Int) (ar:Option Addr) (cr:Nat),e = .returned (.slice ar zs.length cr)∧w'.ownsRow 0 3 1 (.slice ar zs.length cr) zs.length (zs.map (Value.int .i64))∧(∀ g,(Value.slice ar zs.length cr).ownBlock=some g→w.heap.size+1≤g)∧Below w.heap.size w w' ∧
    zs.Nodup∧(∀ i,i∈zs↔0<f i)∧zs.Pairwise (· ≤ ·)
set_option maxRecDepth 100000 in
set_option maxHeartbeats 400000 in
theorem zFj (f:Int→Nat) (D:DataW Unit) (b k:Nat) (w:World) (ho:w.ownsMap Tryz.prog 3 cntR b k D) (hm:zHq f D) (hk:Maps.size D≤1000000) :
    Calls Tryz.prog 208 #[.map (some b)] w fun e w'=>zVG f w e w':=by
  have hbl:=ho.lt
  have HM:=Lib.hid hm
  clear hm
  go_enter Tryz.func208,Tryz.ntmps208
  go_wp2_with (at_range; refine wpList_range_own _ rfl _ 125 rfl 3 29 Tryz.keyed Tryz.underlying125 cntR b k D rfl ho ?_; intro w0 hrg0 hg0 hs0)
  go_frame
  go_loopw [3] (fun v wr=>zXS f D b w.heap.size k w wr v) (fun _ wr=>wr.rangeLeft b w.heap.size)
  case atStart =>
    exact ⟨_,_,[],none,0,rfl,hrg0,by simp,Met.start HM.out,World.ownsRow_nil _ _ _ _,(fun g h=>by simp [Value.ownBlock] at h),(Below.refl _ _).grown hg0 (Nat.le_refl _) (fun j hj=>by cases hj)⟩
  case round =>
    obtain ⟨left,cnt,zs,ar,cr,rfl,hrg,hcs,hC,hown,hbase,hnx⟩:=hrel
    have HBS:=Lib.hid hbase
    clear hbase
    have HC:=Lib.hid hC
    have HO:=Lib.hid hown
    have HX:=Lib.hid hnx
    have HG:=Lib.hid hrg
    clear hC hnx
    go_wp2_with (at_next; refine wpList_next_ranges _ rfl _ rfl 3 Tryz.keyed cntR (Value.int .i64) (Value.float .f64) (fun key kl h=>by obtain ⟨i,h1,_⟩:=zDm h; exact ⟨i,h1⟩) (fun v y h=>by obtain ⟨c,h1,_⟩:=zOd h; exact ⟨c,h1⟩) b w.heap.size k _ _ _ rfl hrg ?_ ?_)
    · intro hc0 hl0
      clear hrg hown
      have hset:∀ i,i∈zs↔0<f i:=fun i=>by rw [HC.out.2 i]; simp [hl0]
      have HSET:=Lib.hid hset
      clear hset
      rcases HO.out.2 with ⟨hv,hl⟩ | ⟨g,cap,cur,hv,hb,hg,hn,hmx,hsz,ht⟩
      · obtain ⟨rfl,hz0,rfl⟩:ar=none∧zs.length=0∧cr=0:=by simpa using hv
        have hzs:zs=[]:=List.eq_nil_of_length_eq_zero hz0
        rw [hz0]
        have HS:=fun w=>Tryz.slices_Sort_int_none none 0 w
        clear hv hl
        go_wp2_with (go_at_call 211; (with_reducible refine (HS _).mono ?_); rintro e w7 ⟨rfl,rfl⟩)
        go_ret
        subst hzs
        exact ⟨[],none,0,rfl,World.ownsRow_nil _ _ _ _,(fun g h=>by simp [Value.ownBlock] at h),HX.out,List.nodup_nil,HSET.out,List.Pairwise.nil⟩
      · obtain ⟨rfl,rfl⟩:ar=some ⟨g,0,none⟩∧cr=cap:=by simpa using hv
        rw [Nat.mul_one] at ht
        have hH:=holds_of_blockI hg ht
        have HS:=Tryz.slices_Sort_int g 0 cr zs wr hH (lt_of_block hg) (by omega)
        have HG2:=Lib.hid hg
        have HSZ:=Lib.hid hsz
        clear hg hH hsz ht HG
        go_wp2_with (go_at_call 211; (with_reducible refine HS.mono ?_); rintro e w7 ⟨rfl,nn,os,rfl⟩)
        go_ret
        have hp:=List.mergeSort_perm zs (fun x y=>decide (x≤y))
        have hrow:=ownsRow_sortedI (base:=0) (n:=nn) (os:=os) hp.length_eq hb HG2.out hn hmx HSZ.out
        have hgr:=grownBy_sortedI (w:=wr) (g:=g) (n:=nn) (os:=os) (zs.mergeSort fun x y=>decide (x≤y)).toArray
        have hl:=hp.length_eq
        refine ⟨zs.mergeSort fun x y=>decide (x≤y),some ⟨g,0,none⟩,cr,by rw [hl]; rfl,by rw [hl]; exact hrow,(fun k hk=>HBS.out k (by rw [← hk]; rfl)),HX.out.grown hgr HX.out.size (fun j hj=>by cases hj; have:=HBS.out g rfl; omega),hp.nodup_iff.2 HC.out.1,fun i=>by rw [hp.mem_iff]; exact HSET.out i,?_⟩
        have h:=List.pairwise_mergeSort (le:=fun x y:Int=>decide (x≤y)) (fun a b c h1 h2=>by simp at h1 h2 ⊢; omega) (fun a b=>by simp; omega) zs
        exact h.imp (fun h=>by simpa using h)
    · intro x c kl y y2 w1 cnt1 hkey hlx hy hat hrg1 hlt hg1 hs1 hen
      obtain ⟨i,e1,rfl,hwf⟩:=zDm hkey
      cases e1
      have hpx:0<f x:=by
        have h1:=has_true_of_atKey hat
        rw [HM.out.has] at h1
        exact of_decide_eq_true h1
      have hC2:=HC.out.step hlx hpx
      have hnb:(Value.slice ar zs.length cr).ownBlock=none∨(Value.slice ar zs.length cr).ownBlock≠some w.heap.size:=by
        right; intro e; have:=HBS.out _ e; omega
      have hown1:=hown.kept hg1 hnb
      have HC2:=Lib.hid hC2
      have HG1:=Lib.hid hg1
      have HR1:=Lib.hid hrg1
      have HR0:=Lib.hid hrg
      have hlen:zs.length<1000000:=by omega
      have HS1:=Lib.hid hs1
      clear hs1 hC2 hg1 hrg hrg1 hown hat hy hnb
      go_wp2_with (at_builtin; refine zAV w1 (Value.int .i64 x) rfl _ _ 128 3 rfl (.int .i64 0) 8 Tryz.underlying128 Tryz.infoInt rfl rfl (.slice ar zs.length cr) zs.length (zs.map (Value.int .i64)) rfl hown1 rfl (by omega) (by decide) ?_; intro ao1 cp1 w2 hown2 hgrow hblk)
      have hrg2:=(HR1.out.alloc (.cells #[.int .i64 x] 3)).kept hgrow (fun e=>by have:=HBS.out b e.symm; omega) (fun e=>by have:=HBS.out _ e.symm; omega)
      have HR2:=Lib.hid hrg2
      have HW2:=Lib.hid hown2
      have HGW:=Lib.hid hgrow
      have HBK:=Lib.hid hblk
      clear hrg2 hown2 hgrow hblk hown1 hen
      go_wp2
      go_roundw
      case rel =>
        refine ⟨_,cnt1,zs++[x],ao1,cp1,by rw [List.length_append]; rfl,HR2.out,by rw [List.length_append]; simp; omega,HC2.out,?_,?_,?_⟩
        · have h:=HW2.out
          rw [List.length_append,List.map_append]
          exact h
        · intro g hg
          rw [List.length_append] at hg
          rcases HBK.out with h | h
          · exact HBS.out g (by rw [← h,← hg]; rfl)
          · have h2:(Value.slice ao1 (zs.length+[x].length) cp1).ownBlock=some (w1.heap.size+1):=by rw [← h]; rfl
            rw [hg] at h2
            have:=Option.some.inj h2
            have:=HS1.out
            have:=HX.out.size
            omega
        · have h1:=HX.out.grown HG1.out HX.out.size (fun j hj=>by cases hj; exact Nat.le_refl _)
          exact (h1.alloc h1.size _).grown HGW.out (by simp; have:=h1.size; omega) (fun j hj=>by have:=HBS.out j hj; omega)
      case measure=>rw [HR2.out.left_eq,HR0.out.left_eq]; exact hlt
end Go.Proofs.YtllaekopaglolaaGreat
end
/-
  Bins summed,plainly: each index once,in growing order. No program in sight.
-/
section
namespace Go.Proofs.YtllaekopaglolaaGreat
abbrev Bins:=List (Int × Nat)
def insB (i:Int) (n:Nat):Bins→Bins
  | []=>[(i,n)]
  | p :: t=>if i<p.1 then (i,n) :: p :: t else if i=p.1 then (p.1,p.2+n) :: t else p :: insB i n t
def summed (xs:Bins):Bins:=xs.foldl (fun l p=>insB p.1 p.2 l) []
def Asc (l:Bins):Prop:=l.Pairwise fun p q=>p.1<q.1
theorem zDD {p:Int × Nat} {t:Bins}:Asc (p :: t)↔(∀ q∈t,p.1<q.1)∧Asc t:=List.pairwise_cons
theorem zIs {i:Int} {n:Nat}:∀ {l:Bins} {q:Int × Nat},q∈insB i n l→q.1=i∨q∈l
  | [],q,h=>by simp [insB] at h; exact .inl (by rw [h])
  | p :: t,q,h=>by
    unfold insB at h
    split at h
    · rcases List.mem_cons.1 h with h | h
      · exact .inl (by rw [h])
      · exact .inr h
    · split at h
      · rename_i hi
        rcases List.mem_cons.1 h with h | h
        · exact .inl (by rw [h,hi])
        · exact .inr (List.mem_cons_of_mem _ h)
      · rcases List.mem_cons.1 h with h | h
        · exact .inr (by rw [h]; exact List.mem_cons_self)
        · rcases zIs h with h | h
          · exact .inl h
          · exact .inr (List.mem_cons_of_mem _ h)
theorem zOS {i:Int} {n:Nat}:∀ {l:Bins},Asc l→Asc (insB i n l)
  | [],_=>by simp [insB,Asc]
  | p :: t,h=>by
    obtain ⟨h1,h2⟩:=zDD.1 h
    unfold insB
    split
    · rename_i hi
      refine zDD.2 ⟨fun q hq=>?_,h⟩
      rcases List.mem_cons.1 hq with rfl | hq
      · exact hi
      · exact Int.lt_trans hi (h1 q hq)
    · split
      · exact zDD.2 ⟨h1,h2⟩
      · refine zDD.2 ⟨fun q hq=>?_,zOS h2⟩
        rcases zIs hq with hq | hq
        · rw [hq]; omega
        · exact h1 q hq
theorem zFi (xs:Bins):Asc (summed xs):=by
  unfold summed
  have:∀ (xs l:Bins),Asc l→Asc (xs.foldl (fun l p=>insB p.1 p.2 l) l):=by
    intro xs
    induction xs with
    | nil=>intro l h; exact h
    | cons p t ih=>intro l h; exact ih _ (zOS h)
  exact this xs [] List.Pairwise.nil
theorem zHP (i:Int) (n:Nat):∀ l:Bins,(insB i n l).length≤l.length+1
  | []=>by simp [insB]
  | p :: t=>by
    unfold insB
    split
    · simp
    · split
      · simp
      · have:=zHP i n t; simp; omega
theorem zOR (i:Int) (n:Nat):∀ l:Bins,tot (insB i n l)=tot l+n
  | []=>by simp [insB,tot]
  | p :: t=>by
    unfold insB
    split
    · simp [tot]; omega
    · split
      · simp [tot]; omega
      · simp [tot,zOR i n t]; omega
theorem zCK (xs:Bins):tot (summed xs)=tot xs:=by
  have:∀ (xs l:Bins),tot (xs.foldl (fun l p=>insB p.1 p.2 l) l)=tot l+tot xs:=by
    intro xs
    induction xs with
    | nil=>intro l; simp [tot]
    | cons p t ih=>intro l; simp only [List.foldl_cons]; rw [ih,zOR,tot]; omega
  unfold summed; rw [this]; simp [tot]
theorem zDb (xs:Bins):(summed xs).length≤xs.length:=by
  have:∀ (xs l:Bins),(xs.foldl (fun l p=>insB p.1 p.2 l) l).length≤l.length+xs.length:=by
    intro xs
    induction xs with
    | nil=>intro l; simp
    | cons p t ih=>intro l; simp only [List.foldl_cons]; have:=ih (insB p.1 p.2 l); have:=zHP p.1 p.2 l; simp; omega
  have:=this xs []
  simpa [summed] using this
end Go.Proofs.YtllaekopaglolaaGreat
end
/-
  spec.Summed walked. (The part that speaks of no program.)
-/
section
namespace Go.Proofs.YtllaekopaglolaaGreat
open Go.RowKit
theorem zBJ {B:Nat} {a w:World} (h:Below B a w) (n:Nat):Below B a (w.drewN n):=⟨h.os,h.tape,h.output,h.size,h.block⟩
theorem zD6 {P:Program} (t e:TypeId) (ht:P.underlying t=some (.slice e)) (size:Nat) (g off n c m:Nat) (h1:m≤n) (_h2:n≤c) (hz:∀ w,(sizeOf e).run P w = .ok size w) :
    ∃ ao,(m=c∨ao=some ⟨g,off+m*size,none⟩)∧∀ w,(Instr.slice t (.slice (some ⟨g,off,none⟩) n c) (some (.int .i64 (m:Int))) none none).run P w = .ok (.slice ao (n - m) (c - m)) w:=by
  have hh:(m:Int)≤(n:Int):=by omega
  by_cases hne:c=m
  · subst hne
    refine ⟨some ⟨g,off,none⟩,.inl rfl,fun w=>?_⟩
    simp [Instr.slice,run_underlying ht,Instr.sliceBounds,go_sem,hh,hz]
  · refine ⟨some ⟨g,off+m*size,none⟩,.inr rfl,fun w=>?_⟩
    simp [Instr.slice,run_underlying ht,Instr.sliceBounds,go_sem,hh,hz,hne]
theorem zE5 {P:Program} (t e:TypeId) (ht:P.underlying t=some (.slice e)) (size:Nat) (ao:Option Addr) (n c m:Nat) (h1:m=n) (h2:n≤c) (hz:∀ w,(sizeOf e).run P w = .ok size w) :
    ∃ ao',∀ w,(Instr.slice t (.slice ao n c) (some (.int .i64 (m:Int))) none none).run P w = .ok (.slice ao' 0 (c - m)) w:=by
  subst h1
  by_cases hne:c=m
  · subst hne
    refine ⟨ao,fun w=>?_⟩
    cases ao <;> simp [Instr.slice,run_underlying ht,Instr.sliceBounds,go_sem,hz]
  · cases ao with
    | none=>refine ⟨none,fun w=>?_⟩; simp [Instr.slice,run_underlying ht,Instr.sliceBounds,go_sem,hz]
    | some a=>refine ⟨some (a.add (m*size)),fun w=>?_⟩; simp [Instr.slice,run_underlying ht,Instr.sliceBounds,go_sem,hz,hne]
theorem zB9 {P:Program} (t ty e:TypeId) (ht:P.underlying t=some (.slice e)) (i:TypeInfo) (hi:P.info? e=some i) (ao:Option Addr) (n c:Nat) (a2:Option Addr) (c2:Nat) (w:World) (hn:n≤c) :
    (Builtin.append_ #[t,t] ty #[.slice ao n c,.slice a2 0 c2]).run P w = .ok (.slice ao n c) w:=by
  cases a2 <;> cases ao <;> simp [Builtin.append_,run_underlying ht,sizeOf,typeInfo,hi,Builtin.lenOf,hn,Builtin.firstCells,loadCells,loadCellsFrom,storeCells]
section
variable {P:Program} (w:World)
theorem zEa {o:Oper} {a:Act} {K:Act→World→Prop} {Q:Exit→Act→World→Prop} (s x:Operand) (t:TypeId)
    (ho:o.op = .call { callee:=.builtin .append,args:=#[s,x],argTypes:=#[t,t] }) (e:TypeId) (i:TypeInfo) (ht:P.underlying t=some (.slice e)) (hi:P.info? e=some i)
    (v:Value) (hs:a.eval s=v) (hv:∃ ao n c,v = .slice ao n c∧n≤c) (a2:Option Addr) (c2:Nat) (hx:a.eval x = .slice a2 0 c2) (h:K (a.put o.dst v) w):o.wp P a w K Q:=by
  obtain ⟨ao,n,c,rfl,hn⟩:=hv
  have hr:=zB9 (P:=P) t o.type e ht i hi ao n c a2 c2 w hn
  unfold Oper.wp execOp
  simp only [ho,resolve,invoke,builtin,Sem.run_bind,Sem.run_pure,Result.andThen_ok,List.map_toArray,List.map_cons,List.map_nil,hs,hx,hr]
  exact h
end
theorem zR3 {e:TypeId} {w:World} {v:Value} {n:Nat} {xs:List Value} (h:w.ownsRow 0 e 2 v n xs):∀ k,v.ownBlock=some k→k<w.heap.size:=fun k hk=>(h.lt k hk).2
theorem zGd (ao:Option Addr) (n c n' c':Nat):(Value.slice ao n c).ownBlock=(Value.slice ao n' c').ownBlock:=by cases ao <;> rfl
end Go.Proofs.YtllaekopaglolaaGreat
end
/-
  spec.Lowest,spec.Highest,spec.Kept walked. (Printed by gen_kept.py.) (The part that speaks of no program.)
-/
section
namespace Go.Proofs.YtllaekopaglolaaGreat
open Go.RowKit
def InR (xs:Bins):Prop:=∀ p∈xs,-10000≤p.1∧p.1≤10000
theorem zOy {xs:Bins} {q:Int × Nat}:q∈summed xs→∃ p∈xs,p.1=q.1:=by
  have:∀ (xs l:Bins) (q:Int × Nat),q∈xs.foldl (fun l p=>insB p.1 p.2 l) l→(∃ p∈xs,p.1=q.1)∨∃ p∈l,p.1=q.1:=by
    intro xs
    induction xs with
    | nil=>intro l q h; exact .inr ⟨q,h,rfl⟩
    | cons p t ih =>
      intro l q h
      rcases ih _ q h with ⟨r,hr,e⟩ | ⟨r,hr,e⟩
      · exact .inl ⟨r,List.mem_cons_of_mem _ hr,e⟩
      · rcases zIs hr with h | h
        · exact .inl ⟨p,List.mem_cons_self,by rw [← e,h]⟩
        · exact .inr ⟨r,h,e⟩
  intro h
  rcases this xs [] q h with h | ⟨p,hp,_⟩
  · exact h
  · cases hp
theorem InR.summed {xs:Bins} (h:InR xs):InR (summed xs):=by
  intro q hq
  obtain ⟨p,hp,e⟩:=zOy hq
  rw [← e]; exact h p hp
def zUX (xs:Bins):Int:=match xs.getLast? with | some p=>p.1 | none=>0
def zOW (xs:Bins):Int:=match xs.head? with | some p=>p.1 | none=>0
def zJh (least:Int) (xs:Bins):Bins:=xs.map fun p=>(max p.1 least,p.2)
def zS2 (greatest:Int) (xs:Bins):Bins:=xs.map fun p=>(min p.1 greatest,p.2)
def lowB (most:Int) (xs:Bins):Bins:=if xs=[] then [] else summed (zJh (zUX xs - most+1) xs)
def zND (most:Int) (xs:Bins):Bins:=if xs=[] then [] else summed (zS2 (zOW xs+most - 1) xs)
def zBz (kind most:Int) (xs:Bins):Bins:=if kind=3 then lowB most (summed xs) else if kind=4 then zND most (summed xs) else summed xs
theorem zUU (m:Int) (xs:Bins):tot (zJh m xs)=tot xs:=by
  induction xs with
  | nil=>rfl
  | cons p t ih=>simp only [zJh,List.map_cons,tot] at *; omega
theorem zUu (m:Int) (xs:Bins):tot (zS2 m xs)=tot xs:=by
  induction xs with
  | nil=>rfl
  | cons p t ih=>simp only [zS2,List.map_cons,tot] at *; omega
theorem zSV (xs:Bins) (m:Nat) (h:xs.length=m+1):zUX xs=(xs[m]'(by omega)).1:=by
  unfold zUX
  rw [List.getLast?_eq_getElem?,show xs.length - 1=m from by omega,List.getElem?_eq_getElem (by omega)]
theorem zQm (xs:Bins) (h:0<xs.length):zOW xs=(xs[0]'h).1:=by
  unfold zOW
  rw [List.head?_eq_getElem?,List.getElem?_eq_getElem h]
end Go.Proofs.YtllaekopaglolaaGreat
end
/-
  Bins and counts,plainly: the counts of bins,of what is kept of them. No program in sight.
-/
section
namespace Go.Proofs.YtllaekopaglolaaGreat
def cntB:Bins→Int→Nat
  | []=>fun _=>0
  | p :: t=>zAe (cntB t) p.1 p.2
theorem zF3 (f:Int→Nat) (i j:Int) (c d:Nat):zAe (zAe f i c) j d=zAe (zAe f j d) i c:=by
  funext k
  simp only [zAe]
  split <;> split <;> omega
def zIh (f:Int→Nat) (xs:Bins):Int→Nat:=xs.foldl (fun f p=>zAe f p.1 p.2) f
theorem zKb (xs:Bins):∀ (f:Int→Nat) (i:Int) (c:Nat),zIh (zAe f i c) xs=zAe (zIh f xs) i c:=by
  induction xs with
  | nil=>intro f i c; rfl
  | cons p t ih =>
    intro f i c
    show zIh (zAe (zAe f i c) p.1 p.2) t=zAe (zIh (zAe f p.1 p.2) t) i c
    rw [zF3,ih]
theorem zFp (xs:Bins):zIh (fun _=>0) xs=cntB xs:=by
  induction xs with
  | nil=>rfl
  | cons p t ih =>
    show zIh (zAe (fun _=>0) p.1 p.2) t=zAe (cntB t) p.1 p.2
    rw [zKb,ih]
theorem zFd (xs:Bins) (p:Int × Nat):cntB (xs++[p])=zAe (cntB xs) p.1 p.2:=by
  rw [← zFp,← zFp]
  unfold zIh
  rw [List.foldl_append]
  rfl
theorem zJ6 (i:Int) (n:Nat):∀ l:Bins,cntB (insB i n l)=zAe (cntB l) i n
  | []=>rfl
  | p :: t=>by
    unfold insB
    split
    · rfl
    · split
      · rename_i h
        funext k
        simp only [cntB,zAe]
        rw [← h]
        split <;> omega
      · show zAe (cntB (insB i n t)) p.1 p.2=zAe (zAe (cntB t) p.1 p.2) i n
        rw [zJ6 i n t,zF3]
theorem zNU (xs:Bins):cntB (summed xs)=cntB xs:=by
  have:∀ (xs l:Bins),cntB (xs.foldl (fun l p=>insB p.1 p.2 l) l)=zIh (cntB l) xs:=by
    intro xs
    induction xs with
    | nil=>intro l; rfl
    | cons p t ih =>
      intro l
      show cntB (t.foldl _ (insB p.1 p.2 l))=zIh (zAe (cntB l) p.1 p.2) t
      rw [ih,zJ6]
  show cntB (xs.foldl (fun l p=>insB p.1 p.2 l) [])=_
  rw [this xs [],← zFp xs]
  rfl
theorem zTC (m:Int):∀ {xs:Bins},InR xs→cntB (zJh m xs)=sqL (cntB xs) m
  | [],_=>by
    rw [show zJh m []=[] from rfl,zTt]
    · intro i _; rfl
    · intro i _; rfl
  | p :: t,h=>by
    show zAe (cntB (zJh m t)) (max p.1 m) p.2=sqL (zAe (cntB t) p.1 p.2) m
    rw [zTC m (fun q hq=>h q (List.mem_cons_of_mem _ hq)),zRS _ _ _ _ (h p List.mem_cons_self).1]
theorem zHj:∀ {l:Bins} {x:Int},(∀ p∈l,p.1≠x)→cntB l x=0
  | [],_,_=>rfl
  | p :: t,x,h=>by
    show (if x=p.1 then _ else cntB t x)=0
    rw [if_neg (fun e=>h p List.mem_cons_self e.symm),zHj (fun q hq=>h q (List.mem_cons_of_mem _ hq))]
theorem zBy {xs:Bins} (h:InR xs) (i:Int) (hi:i < -10000∨10000<i):cntB xs i=0 :=
  zHj (fun p hp e=>by have:=h p hp; omega)
def Pos (l:Bins):Prop:=∀ p∈l,0<p.2
theorem Pos.insB {i:Int} {n:Nat} (hn:0<n):∀ {l:Bins},Pos l→Pos (insB i n l)
  | [],_=>by intro q hq; simp [Go.Proofs.YtllaekopaglolaaGreat.insB] at hq; rw [hq]; exact hn
  | p :: t,h=>by
    have h1:=h p List.mem_cons_self
    have h2:Pos t:=fun q hq=>h q (List.mem_cons_of_mem _ hq)
    unfold Go.Proofs.YtllaekopaglolaaGreat.insB
    split
    · intro q hq
      rcases List.mem_cons.1 hq with rfl | hq
      · exact hn
      · exact h q hq
    · split
      · intro q hq
        rcases List.mem_cons.1 hq with rfl | hq
        · show 0<p.2+n; omega
        · exact h2 q hq
      · intro q hq
        rcases List.mem_cons.1 hq with rfl | hq
        · exact h1
        · exact Pos.insB hn h2 q hq
theorem Pos.summed {xs:Bins} (h:Pos xs):Pos (summed xs):=by
  have:∀ (xs l:Bins),Pos xs→Pos l→Pos (xs.foldl (fun l p=>Go.Proofs.YtllaekopaglolaaGreat.insB p.1 p.2 l) l):=by
    intro xs
    induction xs with
    | nil=>intro l _ h; exact h
    | cons p t ih=>intro l h1 h2; exact ih _ (fun q hq=>h1 q (List.mem_cons_of_mem _ hq)) (h2.insB (h1 p List.mem_cons_self))
  exact this xs [] h (fun q hq=>by cases hq)
theorem Pos.lift {xs:Bins} (h:Pos xs) (m:Int):Pos (zJh m xs):=by
  intro q hq
  obtain ⟨p,hp,rfl⟩:=List.mem_map.1 hq
  exact h p hp
theorem Pos.drop {xs:Bins} (h:Pos xs) (m:Int):Pos (zS2 m xs):=by
  intro q hq
  obtain ⟨p,hp,rfl⟩:=List.mem_map.1 hq
  exact h p hp
theorem zUZ (kind most:Int) (xs:Bins):Asc (zBz kind most xs):=by
  unfold zBz lowB zND
  split
  · split
    · exact List.Pairwise.nil
    · exact zFi _
  · split
    · split
      · exact List.Pairwise.nil
      · exact zFi _
    · exact zFi _
theorem zOL (kind most:Int) {xs:Bins} (h:Pos xs):Pos (zBz kind most xs):=by
  unfold zBz lowB zND
  split
  · split
    · intro q hq; cases hq
    · exact (h.summed.lift _).summed
  · split
    · split
      · intro q hq; cases hq
      · exact (h.summed.drop _).summed
    · exact h.summed
theorem zHi {l:Bins} (ha:Asc l) (hp:Pos l):∀ p∈l,0<cntB l p.1:=by
  induction l with
  | nil=>intro p hp; cases hp
  | cons q t ih =>
    intro p hpm
    show 0<if p.1=q.1 then cntB t p.1+q.2 else cntB t p.1
    have:=hp q List.mem_cons_self
    split
    · omega
    · rcases List.mem_cons.1 hpm with rfl | h
      · rename_i hne; exact absurd rfl hne
      · exact ih (zDD.1 ha).2 (fun q hq=>hp q (List.mem_cons_of_mem _ hq)) p h
theorem zHX (x:Int):∀ {l:Bins},Asc l→l.filter (fun p=>decide (p.1<x+1))=l.filter (fun p=>decide (p.1<x))++l.filter (fun p=>decide (p.1=x))
  | [],_=>rfl
  | p :: t,h=>by
    obtain ⟨h1,h2⟩:=zDD.1 h
    have ih:=zHX x h2
    by_cases c1:p.1<x
    · rw [List.filter_cons_of_pos (by simp; omega),List.filter_cons_of_pos (by simp; omega),List.filter_cons_of_neg (by simp; omega),ih]; rfl
    · have e1:t.filter (fun p=>decide (p.1<x))=[]:=List.filter_eq_nil_iff.2 (fun q hq=>by have:=h1 q hq; simp; omega)
      by_cases c2:p.1=x
      · rw [List.filter_cons_of_pos (by simp; omega),List.filter_cons_of_neg (by simp; omega),List.filter_cons_of_pos (by simp; omega),ih,e1]; rfl
      · rw [List.filter_cons_of_neg (by simp; omega),List.filter_cons_of_neg (by simp; omega),List.filter_cons_of_neg (by simp; omega),ih]
theorem zIL (x:Int):∀ {l:Bins},Asc l→Pos l→l.filter (fun p=>decide (p.1=x))=if 0<cntB l x then [(x,cntB l x)] else []
  | [],_,_=>rfl
  | p :: t,h,hp=>by
    obtain ⟨h1,h2⟩:=zDD.1 h
    have hp2:Pos t:=fun q hq=>hp q (List.mem_cons_of_mem _ hq)
    have h0:=hp p List.mem_cons_self
    by_cases c:p.1=x
    · have e1:t.filter (fun p=>decide (p.1=x))=[]:=List.filter_eq_nil_iff.2 (fun q hq=>by have:=h1 q hq; simp; omega)
      have e2:cntB t x=0:=zHj (fun q hq=>by have:=h1 q hq; omega)
      have e3:cntB (p :: t) x=p.2:=by show (if x=p.1 then cntB t x+p.2 else cntB t x)=p.2; rw [if_pos c.symm,e2,Nat.zero_add]
      rw [List.filter_cons_of_pos (by simp; omega),e1,e3,if_pos h0,← c]
    · have e3:cntB (p :: t) x=cntB t x:=by show (if x=p.1 then cntB t x+p.2 else cntB t x)=cntB t x; rw [if_neg (fun e=>c e.symm)]
      rw [List.filter_cons_of_neg (by simp; omega),e3,zIL x h2 hp2]
theorem zSC {l:Bins} (ha:Asc l) (hp:Pos l) (a:Int) (h:∀ p∈l,a≤p.1) (k:Nat):nz (cntB l) a k=l.filter (fun p=>decide (p.1<a+k)):=by
  induction k with
  | zero=>exact (List.filter_eq_nil_iff.2 (fun q hq=>by have:=h q hq; simp; omega)).symm
  | succ k ih =>
    rw [nz,ih,show a+((k+1:Nat):Int)=a+(k:Int)+1 from by omega,zHX _ ha,zIL _ ha hp]
theorem zVO {l:Bins} (ha:Asc l) (hp:Pos l) (a b:Int) (h1:∀ i,i<a→cntB l i=0) (h2:∀ i,b<i→cntB l i=0):nz (cntB l) a (b - a+1).toNat=l:=by
  have g1:∀ p∈l,a≤p.1:=fun p hpm=>by
    have:=zHi ha hp p hpm
    by_cases c:a≤p.1
    · exact c
    · have:=h1 p.1 (by omega); omega
  have g2:∀ p∈l,p.1≤b:=fun p hpm=>by
    have:=zHi ha hp p hpm
    by_cases c:p.1≤b
    · exact c
    · have:=h2 p.1 (by omega); omega
  rw [zSC ha hp a g1]
  exact List.filter_eq_self.2 (fun p hpm=>by have:=g1 p hpm; have:=g2 p hpm; simp; omega)
theorem zCm (x:Int):∀ {l:Bins},InR l→cum (cntB l) x=tot (l.filter (fun p=>decide (p.1<x)))
  | [],_=>zBF _ _ (fun _ _=>rfl)
  | p :: t,h=>by
    show cum (zAe (cntB t) p.1 p.2) x=_
    rw [zFX _ _ _ _ (h p List.mem_cons_self).1,zCm x (fun q hq=>h q (List.mem_cons_of_mem _ hq))]
    by_cases c:p.1<x
    · rw [if_pos c,List.filter_cons_of_pos (by simp; omega),tot]; omega
    · rw [if_neg c,List.filter_cons_of_neg (by simp; omega)]; rfl
theorem zAy:∀ {l:Bins},InR l→tot2 (cntB l)=tot l
  | [],_=>zBF _ _ (fun _ _=>rfl)
  | p :: t,h=>by
    show tot2 (zAe (cntB t) p.1 p.2)=p.2+tot t
    rw [zOx _ _ _ (h p List.mem_cons_self).1 (h p List.mem_cons_self).2,zAy (fun q hq=>h q (List.mem_cons_of_mem _ hq))]; omega
theorem zB5.unique {f:Int→Nat} {r:Nat} {a b:Int} (h1:zB5 f r a) (h2:zB5 f r b):a=b:=by
  rcases Int.lt_trichotomy a b with h | h | h
  · have:=h2.2 a h; rw [h1.1] at this; cases this
  · exact h
  · have:=h1.2 b h; rw [h2.1] at this; cases this
theorem zSZ {l:Bins} (ha:Asc l) (hr:InR l) (r:Nat) (h0:fgt2 (nf 0) r=false) (ht:fgt2 (nf (tot l)) r=true) (hne:l≠[]):zB5 (cntB l) r (keyF r 0 l):=by
  have key:∀ (t pre:Bins),l=pre++t→t≠[]→(∀ x,(∀ p∈t,x<p.1)→fgt2 (nf (cum (cntB l) (x+1))) r=false)→zB5 (cntB l) r (keyF r (tot pre) t):=by
    intro t
    induction t with
    | nil=>intro pre _ h; exact absurd rfl h
    | cons p t ih =>
      intro pre e _ hx
      have hasc:∀ q∈t,p.1<q.1:=by
        rw [e] at ha
        exact (zDD.1 (List.pairwise_append.1 ha).2.1).1
      have hpre:∀ q∈pre,q.1<p.1:=by
        rw [e] at ha
        exact fun q hq=>(List.pairwise_append.1 ha).2.2 q hq p List.mem_cons_self
      have hcum:∀ x,p.1≤x→(∀ q∈t,x<q.1)→cum (cntB l) (x+1)=tot pre+p.2:=by
        intro x h1 h2
        rw [zCm _ hr,e,List.filter_append,List.filter_cons_of_pos (by simp; omega),List.filter_eq_self.2 (fun q hq=>by have:=hpre q hq; simp; omega),List.filter_eq_nil_iff.2 (fun q hq=>by have:=h2 q hq; simp; omega),zBB]
        rfl
      rw [keyF]
      by_cases c:fgt2 (nf (tot pre+p.2)) r=true
      · rw [if_pos (by rw [c]; rfl)]
        refine ⟨by rw [hcum p.1 (Int.le_refl _) hasc]; exact c,fun x hxp=>hx x (fun q hq=>?_)⟩
        rcases List.mem_cons.1 hq with rfl | hq
        · exact hxp
        · have:=hasc q hq; omega
      · have c':fgt2 (nf (tot pre+p.2)) r=false:=by simpa using c
        cases t with
        | nil =>
          exfalso
          have e2:tot l=tot pre+p.2:=by rw [e,zBB]; rfl
          rw [e2,c'] at ht; cases ht
        | cons q s =>
          rw [if_neg (by rw [c']; simp)]
          have e3:tot pre+p.2=tot (pre++[p]):=by rw [zBB]; rfl
          rw [e3]
          refine ih (pre++[p]) (by rw [e,List.append_assoc]; rfl) (by simp) (fun x hxq=>?_)
          by_cases hxp:x<p.1
          · refine hx x (fun z hz=>?_)
            rcases List.mem_cons.1 hz with rfl | hz
            · exact hxp
            · have:=hasc z hz; omega
          · rw [hcum x (by omega) hxq]; exact c'
  refine key l [] rfl hne (fun x hx=>?_)
  rw [zCm _ hr,List.filter_eq_nil_iff.2 (fun q hq=>by have:=hx q hq; simp; omega)]
  exact h0
end Go.Proofs.YtllaekopaglolaaGreat
end
/-
  The sparse store: TotalCount,MinIndex,MaxIndex.
-/
section
namespace Go.Proofs.YtllaekopaglolaaGreat
open Go.RowKit Go.Maps
def LieI (w:World) (ar:Option Addr) (zs:List Int):Prop:=zs=[]∨∃ g,ar=some ⟨g,0,none⟩∧∀ k,(h:k<zs.length)→w.cell? ⟨g,k,none⟩=some (.int .i64 zs[k])
theorem zIr {w:World} {ar:Option Addr} {cr:Nat} {zs:List Int} (h:w.ownsRow 0 3 1 (.slice ar zs.length cr) zs.length (zs.map (Value.int .i64))):LieI w ar zs∧∀ g,ar=some ⟨g,0,none⟩→g<w.heap.size:=by
  rcases id h.2 with ⟨hv,hl⟩ | ⟨g,cap,cur,hv,hb,hg,hn,hmx,hsz,ht⟩
  · obtain ⟨rfl,hz0,rfl⟩:ar=none∧zs.length=0∧cr=0:=by simpa using hv
    exact ⟨.inl (List.eq_nil_of_length_eq_zero hz0),(fun g e=>by cases e)⟩
  · obtain ⟨rfl,rfl⟩:ar=some ⟨g,0,none⟩∧cr=cap:=by simpa using hv
    refine ⟨.inr ⟨g,rfl,fun k hk=>?_⟩,fun g' e=>by cases e; exact lt_of_block hg⟩
    have h2:=World.ownsRow.cells h (g:=g) rfl k (.int .i64 zs[k]) (by rw [List.getElem?_map,List.getElem?_eq_getElem hk]; rfl)
    have hadd:(⟨g,0,none⟩:Addr).add k=⟨g,k,none⟩:=by unfold Addr.add; split <;> simp_all
    rwa [hadd] at h2
theorem zEf {w w':World} (h:Below w.heap.size w w'):w.grownBy w' none:=⟨h.1,h.2,h.3,h.size,fun k hk _=>h.5 k hk⟩
def zAh (f:Int→Nat) (zs:List Int):Bins:=zs.map fun i=>(i,f i)
theorem zBG (f:Int→Nat) (zs:List Int):(zAh f zs).length=zs.length:=List.length_map _
theorem zIW (f:Int→Nat) (zs:List Int) (k:Nat) (h:k<zs.length):(zAh f zs)[k]'(by rw [zBG]; exact h)=(zs[k],f zs[k]):=by simp [zAh]
theorem zIQ (f:Int→Nat):∀ {zs:List Int},zs.Nodup→∀ x,cntB (zAh f zs) x=if x∈zs then f x else 0
  | [],_,_=>rfl
  | z :: t,h,x=>by
    obtain ⟨h1,h2⟩:=List.nodup_cons.1 h
    show (if x=z then cntB (zAh f t) x+f z else cntB (zAh f t) x)=_
    rw [zIQ f h2 x]
    by_cases c:x=z
    · subst c; rw [if_pos rfl,if_neg h1,if_pos List.mem_cons_self,Nat.zero_add]
    · rw [if_neg c]
      by_cases c2:x∈t
      · rw [if_pos c2,if_pos (List.mem_cons_of_mem _ c2)]
      · rw [if_neg c2,if_neg (by simp [c,c2])]
theorem zB3 {f:Int→Nat} {zs:List Int} (hd:zs.Nodup) (hm:∀ i,i∈zs↔0<f i):cntB (zAh f zs)=f:=by
  funext x
  rw [zIQ f hd]
  by_cases c:x∈zs
  · rw [if_pos c]
  · rw [if_neg c]
    exact (Nat.eq_zero_of_not_pos (fun h=>c ((hm x).2 h))).symm
theorem zF1 {f:Int→Nat} {zs:List Int} (hd:zs.Nodup) (hs:zs.Pairwise (· ≤ ·)):Asc (zAh f zs):=by
  unfold zAh Asc
  rw [List.pairwise_map]
  exact (List.pairwise_and_iff.2 ⟨hs,hd⟩).imp (fun h=>by show _<_; have:=h.1; have:=h.2; omega)
theorem zCn {f:Int→Nat} {zs:List Int} (hm:∀ i,i∈zs↔0<f i):Pos (zAh f zs):=by
  intro p hp
  obtain ⟨i,hi,rfl⟩:=List.mem_map.1 hp
  exact (hm i).1 hi
theorem zBQ {f:Int→Nat} {zs:List Int} (hm:∀ i,i∈zs↔0<f i) (hz:∀ i,i < -10000∨10000<i→f i=0):InR (zAh f zs):=by
  intro p hp
  obtain ⟨i,hi,rfl⟩:=List.mem_map.1 hp
  have h1:=(hm i).1 hi
  show -10000≤i∧i≤10000
  by_cases c:-10000≤i∧i≤10000
  · exact c
  · have:=hz i (by omega); omega
theorem zFn:∀ {l:Bins},Pos l→l.length≤tot l
  | [],_=>Nat.le_refl _
  | p :: t,h=>by
    have h1:=h p List.mem_cons_self
    have h2:=zFn (l:=t) (fun q hq=>h q (List.mem_cons_of_mem _ hq))
    show t.length+1≤p.2+tot t
    omega
def zWM (f:Int→Nat) (zs:List Int) (w wr:World) (v i:Value):Prop :=
  ∃ k,k≤zs.length∧i = .int .i64 (k:Int)∧v = .float .f64 (nf (tot ((zAh f zs).take k)))∧wr=w
set_option maxRecDepth 100000 in
set_option maxHeartbeats 400000 in
theorem zOu (f:Int→Nat) (p b k:Nat) (w:World) (h:zDY f p b k w) (hk:k≤1000000) (hz:∀ i,i < -10000∨10000<i→f i=0) (hs:tot2 f<9007199254740992) :
    Calls Tryz.prog 207 #[.pointer (some ⟨p,0,none⟩)] w fun e w'=>e = .returned (.float .f64 (nf (tot2 f)))∧Below w.heap.size w w':=by
  obtain ⟨hp,⟨D,ho,hm⟩,hne⟩:=h
  have d0:=cell_of_row _ _ 0 _ _ _ hp
  have HSO:=zFj f D b k w ho hm (Nat.le_trans ho.size_le hk)
  have hpl:=lt_of_block hp
  have HO:=Lib.hid ho
  have HM:=Lib.hid hm
  have HZ:=Lib.hid hz
  have HS:=Lib.hid hs
  clear hp ho hm hz hs hne
  go_enter Tryz.func207,Tryz.ntmps207
  go_wp2_with fail
  refine HSO.mono ?_
  clear HSO
  rintro e w1 ⟨zs,ar,cr,rfl,hrow,-,hbel,hnd,hmem,hsort⟩
  obtain ⟨hlie,hgl⟩:=zIr hrow
  have d1:w1.cell? ⟨p,0,none⟩=some (.map (some b)):=(hbel.cell hpl).trans d0
  have ho1:=HO.out.kept (zEf hbel) (by simp)
  have hcnt:=zB3 hnd hmem
  have htot:tot (zAh f zs)=tot2 f:=by rw [← zAy (zBQ hmem HZ.out),hcnt]
  have hlen:zs.length<9007199254740992:=by
    have h1:=zFn (zCn hmem)
    have h2:(zAh f zs).length=zs.length:=by unfold zAh; rw [List.length_map]
    have:=HS.out; omega
  have HB:=Lib.hid hbel
  have HL:=Lib.hid hlie
  have HT:=Lib.hid htot
  have HO1:=Lib.hid ho1
  have HR:Hid (∀ i∈zs,-10000≤i∧i≤10000):=fun i hi=>by
    have:=zBQ hmem HZ.out (i,f i) (List.mem_map.2 ⟨i,hi,rfl⟩); exact this
  clear hrow hbel hnd hmem hsort hgl hlie d0 hcnt htot ho1
  go_wp2
  go_loopw [3,13] (fun v i wr=>zWM f zs w1 wr v i) (fun _ i _=>zs.length - (intOf i).toNat)
  case atStart=>exact ⟨0,by omega,rfl,by rw [List.take_zero,tot,zAp],rfl⟩
  case round =>
    obtain ⟨k,hk,rfl,rfl,rfl⟩:=hrel
    by_cases hlt:k<zs.length
    · rcases HL.out with h0 | ⟨g,rfl,hcell⟩
      · rw [h0] at hlt; simp at hlt
      have c0:=hcell k hlt
      have hkb:k<(zAh f zs).length:=by unfold zAh; rw [List.length_map]; exact hlt
      have hat:=zIW f zs k hlt
      have hsu:=zGa (zAh f zs) k hkb
      rw [hat] at hsu
      have hadd:=fun w:World=>run_float_arith (P:=Tryz.prog) w .add 29 .f64 _ _ _ (zAz (tot ((zAh f zs).take k)) (f zs[k]) (by have:=zNj (zAh f zs) (k+1); have:=HT.out; have:=HS.out; omega))
      rw [← show _=tot ((zAh f zs).take k)+f zs[k] from hsu] at hadd
      have hr:=HR.out zs[k] (List.getElem_mem hlt)
      have hlook:=zGe HO1.out HM.out zs[k] (by omega) (by omega)
      obtain ⟨y,hy⟩:∃ y,y=nf (f zs[k]):=⟨_,rfl⟩
      obtain ⟨x,hx⟩:∃ x,x=zs[k]:=⟨_,rfl⟩
      rw [← hy] at hlook hadd
      rw [← hx] at hlook c0
      clear hy hx hat hsu hcell hr
      go_wp2
      go_roundw
      case rel=>exact ⟨k+1,by omega,by go_num,rfl,rfl⟩
      case measure=>simp [intOf]; omega
    · obtain rfl:k=zs.length:=by omega
      clear hlt
      go_wp2
      go_ret
      exact ⟨by rw [← HT.out,List.take_of_length_le (by unfold zAh; rw [List.length_map]; exact Nat.le_refl _)]; rfl,HB.out⟩
end Go.Proofs.YtllaekopaglolaaGreat
end
