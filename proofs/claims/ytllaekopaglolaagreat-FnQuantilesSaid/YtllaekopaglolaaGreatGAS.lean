/-
  The sparse store's ordered bins.
-/
import Derived.Test.YtllaekopaglolaaGreatGAR
import Derived.Test.YtllaekopaglolaaGreatGAQ
import Derived.Laws.OwnMore
import Derived.Laws.BitsAllLaws
section
namespace Go.Proofs.YtllaekopaglolaaGreat
open Go.RowKit Go.Maps Go.Sort Go.Shelf
def encB (f:Int→Nat) (x:Fin 20001):List Value:=[.int .i64 ((x.val:Int) - 10000),.float .f64 (nf (f ((x.val:Int) - 10000)))]
set_option maxRecDepth 100000 in
theorem closureB (f:Int→Nat) (x y:Fin 20001) (W:World) :
    Calls Tryz.prog 213 #[.agg (encB f x).toArray,.agg (encB f y).toArray] W fun e w'=>e = .returned (.int .i64 ((x.val:Int) - (y.val:Int)))∧∃ q os',w'=grow (W.drewN q) os':=by
  have hx:=x.isLt
  have hy:=y.isLt
  unfold encB
  obtain ⟨a,ha⟩:∃ a:Int,a=(x.val:Int) - 10000:=⟨_,rfl⟩
  obtain ⟨b,hb⟩:∃ b:Int,b=(y.val:Int) - 10000:=⟨_,rfl⟩
  have i1:IntKind.i64.wrap (a - b)=a - b:=by rw [IntKind.wrap_i64]; omega
  rw [← ha,← hb,show (x.val:Int) - (y.val:Int)=a - b from by omega]
  generalize nf (f a)=fa
  generalize nf (f b)=fb
  clear ha hb hx hy
  go_enter Tryz.func213,Tryz.ntmps213
  go_wp2
  go_ret
  exact ⟨rfl,0,_,by rw [alloc_eq_grow,alloc_eq_grow,grow_grow]; rfl⟩
def cfB (x y:Fin 20001):Int:=(x.val:Int) - (y.val:Int)
theorem ltB (x y:Fin 20001):ltOf cfB x y=decide (x.val<y.val):=by
  unfold ltOf cfB
  by_cases h:x.val<y.val
  · rw [decide_eq_true h,decide_eq_true (by omega)]
  · rw [decide_eq_false h,decide_eq_false (by omega)]
theorem swoB:SWO (ltOf cfB) where
  irrefl x:=by rw [ltB]; simp
  trans x y z h1 h2:=by rw [ltB] at *; simp at *; omega
  ntrans x y z h1 h2:=by rw [ltB] at *; simp at *; omega
def toF (i:Int):Fin 20001:=⟨(i+10000).toNat % 20001,Nat.mod_lt _ (by decide)⟩
theorem toF_val {i:Int} (h1:-10000≤i) (h2:i≤10000):((toF i).val:Int)=i+10000:=by
  show (((i+10000).toNat % 20001:Nat):Int)=_
  rw [Nat.mod_eq_of_lt (by omega)]; omega
theorem encB_toF (f:Int→Nat) {i:Int} (h1:-10000≤i) (h2:i≤10000):encB f (toF i)=[.int .i64 i,.float .f64 (nf (f i))]:=by
  unfold encB
  rw [toF_val h1 h2,show i+10000 - 10000=i from by omega]
theorem pc_get (ps:List (Int × Nat)) (k:Nat) (h:k<ps.length):(pc ps)[2*k]?=some (.int .i64 ps[k].1)∧(pc ps)[2*k+1]?=some (.float .f64 ps[k].2):=by
  induction ps generalizing k with
  | nil=>simp at h
  | cons p t ih =>
    cases k with
    | zero=>exact ⟨rfl,rfl⟩
    | succ k =>
      have:=ih k (by simpa using h)
      rw [show 2*(k+1)=2*k+1+1 from by omega]
      exact this
theorem holdsB {f:Int→Nat} {zs:List Int} {w:World} {g:Nat} {cur:Array Value} {tE:TypeId} (hg:w.heap[g]?=some (.cells cur tE (0,0))) (ht:cur.toList.take (zs.length*2)=pc (fb (binsOf f zs))) (hr:∀ i∈zs,-10000≤i∧i≤10000) :
    HoldsK (encB f) 2 w g 0 (zs.map toF).toArray:=by
  intro t h
  rw [size_flatK] at h
  have hsz:(zs.map toF).toArray.size=zs.length:=by simp
  rw [hsz] at h
  refine ⟨?_,frozen_of_row w g _ cur _ hg⟩
  rw [get_flatK _ _ _ _ (by rw [hsz]; exact h)]
  have hk:t / 2<zs.length:=by omega
  have hin:=hr zs[t / 2] (List.getElem_mem hk)
  have e1:(zs.map toF).toArray[t / 2]! = toF zs[t / 2]:=by
    rw [getElem!_pos _ _ (by rw [hsz]; exact hk)]; simp
  have hpl:t / 2<(fb (binsOf f zs)).length:=by rw [fb_length,binsOf_length]; exact hk
  obtain ⟨c0,c1⟩:=pc_get (fb (binsOf f zs)) (t / 2) hpl
  have e2:(fb (binsOf f zs))[t / 2]=(zs[t / 2],nf (f zs[t / 2])):=by rw [fb_get]; simp [binsOf]
  rw [e2] at c0 c1
  rw [e1,encB_toF f hin.1 hin.2]
  have hcell:∀ v,(pc (fb (binsOf f zs)))[t]?=some v→w.cell? ⟨g,0+t,none⟩=some v:=by
    intro v hv
    rw [← ht,List.getElem?_take_of_lt h,Array.getElem?_toList] at hv
    rw [Nat.zero_add,← hv]
    exact cell_of_row w g t cur tE _ hg
  rcases Nat.mod_two_eq_zero_or_one t with h2 | h2
  · rw [show 2*(t / 2)=t from by omega] at c0
    rw [h2]
    exact hcell _ c0
  · rw [show 2*(t / 2)+1=t from by omega] at c1
    rw [h2]
    exact hcell _ c1
theorem sortB_any (f:Int→Nat) (zs:List Int) (ar:Option Addr) (cr:Nat) (w:World) (hown:w.ownsRow 0 189 2 (.slice ar zs.length cr) zs.length (pc (fb (binsOf f zs)))) (hr:∀ i∈zs,-10000≤i∧i≤10000) (hs:zs.Pairwise (· ≤ ·)) (hl:zs.length<1000000000) :
    Calls Tryz.prog 212 #[.slice ar zs.length cr,.func (.func 213) #[] #[]] w fun e w'=>e = .returned (.tuple #[])∧Below w.heap.size w w':=by
  rcases id hown.2 with ⟨hv,hl0⟩ | ⟨g,cap,cur,hv,hb,hg,hn,hmx,hsz,ht⟩
  · obtain ⟨rfl,hz0,rfl⟩:ar=none∧zs.length=0∧cr=0:=by simpa using hv
    rw [hz0]
    exact (AnyF.slices_SortFunc_none Tryz.sortBins none 0 _ w).mono fun e w' h=>⟨h.1,by rw [h.2]; exact Below.refl _ _⟩
  · obtain ⟨rfl,rfl⟩:ar=some ⟨g,0,none⟩∧cr=cap:=by simpa using hv
    have hH:=holdsB hg ht hr
    have hd:(zs.map toF).toArray.size=zs.length:=by simp
    have eg:∀ args w,(callFunc 213 args).run Tryz.prog w = .ok (.enter 213 args) w:=enters_of Tryz.func213 (by kernel_rfl) rfl
    have h:=AnyQ.slices_SortFunc_total Tryz.sortBins 2 Tryz.isAgg189 Tryz.sizeOf189 (encB f) (fun _=>rfl) (fun x v hv=>by simp [encB] at hv; rcases hv with rfl | rfl <;> rfl) cfB swoB 213 #[] g 0 cr (zs.map toF).toArray w eg (fun _ _ _ _ x y=>closureB f x y _) hH (lt_of_block hg) (by rw [hd]; omega) (fun x y h1 h2=>by rw [ltB] at h1 h2; simp at h1 h2; exact Fin.ext (by omega))
    rw [hd] at h
    refine h.mono fun e w' h=>⟨h.1,?_⟩
    obtain ⟨n,os,rfl⟩:=h.2
    have hsrt:((zs.map toF).toArray.toList.mergeSort fun x y=>!(ltOf cfB) y x).toArray=(zs.map toF).toArray:=by
      congr 1
      refine List.mergeSort_of_pairwise ?_
      show (zs.map toF).Pairwise _
      rw [List.pairwise_map]
      refine List.Pairwise.imp_of_mem (fun {a b} ha hb hab=>?_) hs
      have h1:=toF_val (hr a ha).1 (hr a ha).2
      have h2:=toF_val (hr b hb).1 (hr b hb).2
      rw [ltB]
      simp
      omega
    rw [hsrt]
    unfold sortWorldK
    rw [putRowK_self _ _ (Sort.ahead w n) g 0 _ (holdsK_ahead _ _ w n g 0 _ hH)]
    exact ⟨rfl,rfl,rfl,by rw [size_grow]; exact Nat.le_add_right _ _,fun k hk=>(heap_grow_old (Sort.ahead w n) os hk).trans rfl⟩
theorem Own2.later {e:TypeId} {w wr w7:World} {v:Value} {ps:List (Int × Nat)} (h:Own2 e w wr v ps) (hb:Below wr.heap.size wr w7):Own2 e w w7 v ps:=by
  refine ⟨⟨(Fr.of_below hb).owns h.1.1 (fun k hk=>?_),h.1.2⟩,h.2.trans (hb.mono h.2.size)⟩
  rcases h.1.1.2 with ⟨h1,_⟩ | ⟨g,cap,cur,hv,_,hg,_⟩
  · rw [h1] at hk; simp [Value.ownBlock] at hk
  · rw [hv] at hk; cases hk; exact Nat.not_le.2 (lt_of_block hg)
def OrdRel (f:Int→Nat) (zs:List Int) (w w2 wr:World) (v i:Value):Prop :=
  ∃ (k:Nat) (ar:Option Addr) (cr:Nat),k≤zs.length∧i = .int .i64 (k:Int)∧v = .slice ar k cr∧Own2 189 w wr v (fb (binsOf f (zs.take k))) ∧
    (∀ q,v.ownBlock=some q→q=w.heap.size∨w2.heap.size≤q)∧Fr (fun q=>q=w.heap.size) w2 wr
def GivesB (f:Int→Nat) (w:World) (e:Ending) (w':World):Prop :=
  ∃ zs:List Int,zs.Nodup∧(∀ i,i∈zs↔0<f i)∧zs.Pairwise (· ≤ ·)∧GivesP 189 (fb (binsOf f zs)) w e w'
set_option maxRecDepth 100000 in
set_option maxHeartbeats 400000 in
theorem ordered_any (f:Int→Nat) (p b k:Nat) (w:World) (h:Sparse f p b k w) (hk:k≤1000000) (hz:∀ i,i < -10000∨10000<i→f i=0) (hs:tot2 f<1000000000) :
    Calls Tryz.prog 209 #[.pointer (some ⟨p,0,none⟩)] w fun e w'=>GivesB f w e w':=by
  obtain ⟨hp,⟨D,ho,hm⟩,hne⟩:=h
  have d0:=cell_of_row _ _ 0 _ _ _ hp
  have hpl:=lt_of_block hp
  have hbw:=ho.lt
  have hsz:=ho.size_le
  obtain ⟨i0,hi,hz0,hz1,hz2⟩:=info_parts Tryz.infoStB
  obtain ⟨w1,hmk,hrow1,hgr1⟩:=run_make_own (P:=Tryz.prog) w 0 187 189 i0 _ 2 Tryz.underlying187 hi hz0 hz1 .i64 .i64 (Maps.size D) (by rw [hz2]; omega) (by unfold maxLen; omega) (Nat.zero_le _)
  have d1:w1.cell? ⟨p,0,none⟩=some (.map (some b)):=by
    have h1:w1.heap[p]?=w.heap[p]?:=hgr1.block p hpl (by simp)
    exact cell_of_row _ _ 0 _ _ _ (h1.trans hp)
  have ho1:=ho.kept hgr1 (by simp)
  have HSO:=sorted_any f D b k w1 ho1 hm (Nat.le_trans hsz hk)
  have HO1:=Lib.hid ho1
  have HM:=Lib.hid hm
  have HZ:=Lib.hid hz
  have HS:=Lib.hid hs
  have HR1:=Lib.hid hrow1
  have HG1:=Lib.hid hgr1
  have hpl1:p<w1.heap.size:=Nat.lt_of_lt_of_le hpl hgr1.size
  clear hp hm hz hs hne ho1 hrow1 hgr1 hi hz0 hz1 hz2
  go_enter Tryz.func209,Tryz.ntmps209
  go_wp2_with (at_len; refine wpList_len_own _ rfl _ 125 rfl 3 29 Tryz.underlying125 cntR b k D rfl ho ?_)
  go_wp2_with fail
  clear ho d0 hmk
  refine HSO.mono ?_
  clear HSO
  rintro e w2 ⟨zs,ar,cr,rfl,hrow,hbase,hbel,hnd,hmem,hsort⟩
  obtain ⟨hlie,hgl⟩:=lieI_of hrow
  have hin:=fun i hi=>binsOf_inR hmem HZ.out (i,f i) (List.mem_map.2 ⟨i,hi,rfl⟩)
  have hlen:zs.length<1000000000:=by
    have h1:=pos_len (binsOf_pos hmem)
    rw [binsOf_length,← tot2_cnt (binsOf_inR hmem HZ.out),binsOf_cnt hnd hmem] at h1
    have:=HS.out; omega
  have d2:w2.cell? ⟨p,0,none⟩=some (.map (some b)):=(hbel.cell hpl1).trans d1
  have ho2:=HO1.out.kept (grown_of_below hbel) (by simp)
  have HO2:=Lib.hid ho2
  have HL:=Lib.hid hlie
  have HIN:Hid (∀ i∈zs,-10000≤i∧i≤10000):=hin
  have HND:=Lib.hid hnd
  have HMEM:=Lib.hid hmem
  have HSRT:=Lib.hid hsort
  have hw1:w.heap.size<w1.heap.size:=by
    rcases HR1.out.2 with ⟨h1,_⟩ | ⟨g,cap,cur,hv,_,hg,_⟩
    · cases h1
    · cases hv; exact lt_of_block hg
  have hown2:Own2 189 w w2 (.slice (some ⟨w.heap.size,0,none⟩) 0 (Maps.size D)) [] :=
    ⟨⟨(Fr.of_below hbel).owns HR1.out (fun k hk=>by cases hk; exact Nat.not_le.2 hw1),fun k hk=>by cases hk; exact Nat.le_refl _⟩,((Below.refl _ w).grown HG1.out (Nat.le_refl _) (fun k hk=>by cases hk)).trans (hbel.mono HG1.out.size)⟩
  have hidx:∀ g,ar=some ⟨g,0,none⟩→g<w2.heap.size∧g≠w.heap.size:=fun g e=>by
    subst e
    have:=hbase g rfl
    exact ⟨hgl g rfl,by omega⟩
  have HIDX:=Lib.hid hidx
  have hpw2:p<w2.heap.size:=Nat.lt_of_lt_of_le hpl1 hbel.size
  have hpne:p≠w.heap.size:=by omega
  have hbne:b≠w.heap.size:=by omega
  have hsize2:w.heap.size≤w2.heap.size:=hown2.2.size
  have HD2:=Lib.hid d2
  have HOWN:=Lib.hid hown2
  clear hrow hbel hnd hmem hsort hgl hlie d1 d2 ho2 hin hown2 hbase HO1 hidx hw1
  go_wp2
  go_loopw [3,19] (fun v i wr=>OrdRel f zs w w2 wr v i) (fun _ i _=>zs.length - (intOf i).toNat)
  case atStart=>exact ⟨0,_,_,Nat.zero_le _,by go_num,rfl,HOWN.out,(fun q hq=>by cases hq; exact .inl rfl),Fr.refl _ _⟩
  case round =>
    obtain ⟨k,ao,co,hk,rfl,rfl,hown,hob,hfr⟩:=hrel
    by_cases hlt:k<zs.length
    · rcases HL.out with h0 | ⟨g,rfl,hcell⟩
      · rw [h0] at hlt; simp at hlt
      obtain ⟨hg1,hg2⟩:=HIDX.out g rfl
      have c0:wr.cell? ⟨g,k,none⟩=some (.int .i64 zs[k]):=hfr.cell (hcell k hlt) hg2
      have dr:wr.cell? ⟨p,0,none⟩=some (.map (some b)):=hfr.cell HD2.out hpne
      have hor:wr.ownsMap Tryz.prog 3 cntR b _ D:=HO2.out.kept (row:=some w.heap.size) ⟨hfr.os,hfr.tape,hfr.output,hfr.size,fun q hq hne=>hfr.block q hq (fun e=>hne (by rw [e]))⟩ (by simpa using hbne)
      have hr:=HIN.out zs[k] (List.getElem_mem hlt)
      have hlook:=look_run hor HM.out zs[k] (by omega) (by omega)
      have hst:fb (binsOf f (zs.take (k+1)))=fb (binsOf f (zs.take k))++[(zs[k],nf (f zs[k]))]:=by
        rw [List.take_succ_eq_append_getElem hlt]; unfold binsOf; rw [List.map_append,fb_append]; rfl
      have HST:=Lib.hid hst
      obtain ⟨y,hy⟩:∃ y,y=nf (f zs[k]):=⟨_,rfl⟩
      obtain ⟨x,hx⟩:∃ x,x=zs[k]:=⟨_,rfl⟩
      rw [← hx] at HST
      have HST':Hid (fb (binsOf f (zs.take (k+1)))=fb (binsOf f (zs.take k))++[(x,y)]):=by rw [hy,hx]; exact hst
      rw [← hy] at hlook
      rw [← hx] at hlook c0
      have ho1:=hown.1.1
      have hlk:(fb (binsOf f (zs.take k))).length=k:=by rw [fb_length,binsOf_length,List.length_take]; omega
      rw [hlk] at ho1
      have HOW:=Lib.hid hown
      have HOB:=Lib.hid hob
      have HFR:=Lib.hid hfr
      have HLK:=Lib.hid hlk
      clear hy hx hst HST hcell hr hown hob hfr hlk hor
      go_wp2_with (at_builtin; refine wpList_append_pair wr wr.heap.size rfl x y rfl _ _ 187 189 rfl (.agg #[.int .i64 0,.float .f64 0]) 16 Tryz.underlying187 Tryz.infoStB rfl (.slice ao k co) k (fb (binsOf f (zs.take k))) rfl ho1 rfl (by omega) (by decide) ?_; intro ao1 cp1 w3 hown' hgrow hblk)
      have hstp:=HOW.out.step (o:=.cells #[.int .i64 x,.float .f64 y] 189) (by rw [HLK.out]; exact hown') hgrow hblk
      have HSTP:=Lib.hid hstp
      have HGR:=Lib.hid hgrow
      have HBK:=Lib.hid hblk
      clear hstp hown' hgrow hblk ho1 c0 dr hlook
      go_wp2
      go_roundw
      case rel =>
        refine ⟨k+1,ao1,cp1,by omega,by go_num,rfl,?_,?_,?_⟩
        · rw [HST'.out]; exact HSTP.out
        · intro q hq
          rcases HBK.out with h | h
          · exact HOB.out q (by rw [← h]; exact hq)
          · have h2:some q=some (wr.heap.size+1):=by rw [← hq]; exact h
            have:=Option.some.inj h2
            have:=HFR.out.size
            right; omega
        · refine (HFR.out.alloc _).grown HGR.out (fun q hq hlt=>?_)
          rcases HOB.out q hq with h | h
          · exact h
          · omega
      case measure=>simp [intOf]; omega
    · obtain rfl:k=zs.length:=by omega
      clear hlt
      have ho1:=hown.1.1
      have hlk:(fb (binsOf f (zs.take zs.length))).length=zs.length:=by rw [fb_length,binsOf_length,List.length_take]; omega
      rw [hlk,List.take_length] at ho1
      have HSF:=sortB_any f zs ao co wr ho1 HIN.out HSRT.out (by omega)
      have hbig:=hown.2
      have hob2:=hown.1.2
      have HOW:=Lib.hid hown
      clear hown hob hfr ho1 hlk
      go_wp2_with (go_at_call 212; (with_reducible refine HSF.mono ?_); rintro e w7 ⟨rfl,hb7⟩)
      go_ret
      have h2:=HOW.out.later hb7
      rw [List.take_length] at h2
      have hl2:(fb (binsOf f zs)).length=zs.length:=by rw [fb_length,binsOf_length]
      exact ⟨zs,HND.out,HMEM.out,HSRT.out,ao,co,by rw [hl2]; rfl,by rw [hl2]; exact h2⟩
end Go.Proofs.YtllaekopaglolaaGreat
end
/-
  The sparse store: Bins,MinIndex,MaxIndex,KeyAtRank.
-/
section
namespace Go.Proofs.YtllaekopaglolaaGreat
open Go.RowKit Go.Maps
theorem giv_lie {t:TypeId} {w w1:World} {ar:Option Addr} {cr:Nat} {ps:List (Int × Nat)} (h:Own2 t w w1 (.slice ar ps.length cr) ps):Lie2 w1 ar ps:=(lie2_of_owns h.1.1).2.2.2
end Go.Proofs.YtllaekopaglolaaGreat
end
/-
  The sparse store: KeyAtRank.
-/
section
namespace Go.Proofs.YtllaekopaglolaaGreat
open Go.RowKit Go.Maps
def KeySRel (r:Nat) (l:Bins) (w wr:World) (v i:Value):Prop :=
  ∃ k,k≤l.length∧i = .int .i64 (k:Int)∧v = .float .f64 (nf (tot (l.take k)))∧Below w.heap.size w wr ∧
    Hid (k<l.length→keyF r 0 l=keyF r (tot (l.take k)) (l.drop k))∧Hid (k=l.length→fgt2 (nf (tot (l.take k))) r=false)
set_option maxRecDepth 100000 in
set_option maxHeartbeats 400000 in
theorem keyS_any (f:Int→Nat) (p b k r:Nat) (w:World) (h:Sparse f p b k w) (hk:k≤1000000) (hz:∀ i,i < -10000∨10000<i→f i=0) (hs:tot2 f<1000000000)
   (hr1:fgt2 (nf 0) r=false) (hr2:fgt2 (nf (tot2 f)) r=true) :
    Calls Tryz.prog 202 #[.pointer (some ⟨p,0,none⟩),.float .f64 r] w fun e w'=>(∃ K,e = .returned (.int .i64 K)∧KeyIs f r K)∧Below w.heap.size w w':=by
  have HOR:=ordered_any f p b k w h hk hz hs
  have HZ:=Lib.hid hz
  have HS:=Lib.hid hs
  have HR1:=Lib.hid hr1
  have HR2:=Lib.hid hr2
  clear h hz hs hr1 hr2
  go_enter Tryz.func202,Tryz.ntmps202
  go_wp2_with fail
  refine HOR.mono ?_
  clear HOR
  rintro e w0 ⟨zs,hnd,hmem,hsort,ar0,cr0,rfl,hown0⟩
  have htot:tot (binsOf f zs)=tot2 f:=by rw [← tot2_cnt (binsOf_inR hmem HZ.out),binsOf_cnt hnd hmem]
  obtain ⟨l,hl⟩:∃ l,l=binsOf f zs:=⟨_,rfl⟩
  have hkey:Hid (KeyIs f r (keyF r 0 l)):=by
    have hne:l≠[]:=by
      intro e
      have h1:tot2 f=0:=by rw [← htot,← hl,e]; rfl
      have h2:=HR2.out
      rw [h1,HR1.out] at h2; cases h2
    have h1:=keyF_is (l:=l) (by rw [hl]; exact binsOf_asc hnd hsort) (by rw [hl]; exact binsOf_inR hmem HZ.out) r HR1.out (by rw [hl,htot]; exact HR2.out) hne
    rw [show cntB l=f from by rw [hl]; exact binsOf_cnt hnd hmem] at h1
    exact h1
  rw [← hl] at hown0 htot
  rw [← hl]
  have hlen:l.length<1000000000:=by
    have h1:=pos_len (binsOf_pos hmem)
    rw [← hl,htot] at h1
    have:=HS.out; omega
  have hLie:=giv_lie hown0
  have HL:=Lib.hid hLie
  have HB0:=Lib.hid hown0.2
  have HT:=Lib.hid htot
  have HFL:Hid ((fb l).length=l.length):=fb_length l
  clear hnd hmem hsort hown0 hl htot hLie
  rw [fb_length]
  go_wp2
  go_loopw [6,15] (fun v i wr=>KeySRel r l w0 wr v i) (fun _ i _=>l.length - (intOf i).toNat)
  case atStart =>
    refine ⟨0,by omega,rfl,by rw [List.take_zero,tot,nf_zero],Below.refl _ _,fun _=>rfl,fun h=>?_⟩
    rw [List.take_zero]; exact HR1.out
  case round =>
    obtain ⟨k,hk,rfl,rfl,hb,HK,HE⟩:=hrel
    by_cases hlt:k<l.length
    · rcases HL.out.later hb with h0 | ⟨g,off,rfl,hcell⟩
      · have:=congrArg List.length h0; rw [fb_length,List.length_nil] at this; omega
      obtain ⟨c0,c1⟩:=hcell k (by rw [fb_length]; exact hlt)
      rw [fb_get] at c0 c1
      dsimp only at c0 c1
      have hadd:=fun w:World=>run_float_arith (P:=Tryz.prog) w .add 29 .f64 _ _ _ (nf_add (tot (l.take k)) l[k].2 (by have:=tot_succ l k hlt; have:=tot_take l (k+1); have:=HT.out; have:=HS.out; omega))
      have hd:keyF r (tot (l.take k)) (l.drop k)=if fgt2 (nf (tot (l.take (k+1)))) r||(l.drop (k+1)).isEmpty then l[k].1 else keyF r (tot (l.take (k+1))) (l.drop (k+1)):=by
        rw [List.drop_eq_getElem_cons hlt,keyF,tot_succ l k hlt]
      have HD:=Lib.hid hd
      clear hd
      rw [← tot_succ l k hlt] at hadd
      obtain ⟨b,hbb⟩:∃ b,b=nf l[k].2:=⟨_,rfl⟩
      obtain ⟨x,hx⟩:∃ x,x=l[k].1:=⟨_,rfl⟩
      rw [← hbb] at c1 hadd
      rw [← hx] at c0
      have HX:=Lib.hid hx
      have HB:=Lib.hid hb
      have hz:=hb.size
      obtain ⟨y,hy⟩:∃ y,y=nf (tot (l.take (k+1))):=⟨_,rfl⟩
      rw [← hy] at hadd
      have HY:=Lib.hid hy
      clear hbb hx hb hcell hy
      cases hf:(FloatKind.f64.format.order y r == some .gt)
      · have hf':Hid (fgt2 y r=false):=hf
        have hn1:Hid (k+1<l.length→keyF r 0 l=keyF r (tot (l.take (k+1))) (l.drop (k+1))):=fun h=>by
          rw [HK.out hlt,HD.out,← HY.out,hf'.out,if_neg (by simp; omega)]
        have hn2:Hid (k+1=l.length→fgt2 (nf (tot (l.take (k+1)))) r=false):=fun _=>by rw [← HY.out]; exact hf'.out
        clear HK HE HD
        go_wp2
        go_roundw
        case rel=>exact ⟨k+1,by omega,by go_num,by rw [HY.out],HB.out.alloc hz _,hn1,hn2⟩
        case measure=>simp [intOf]; omega
      · have hres:Hid (x=keyF r 0 l):=by
          have hf':fgt2 y r=true:=hf
          show x=keyF r 0 l
          rw [HK.out hlt,HD.out,← HY.out,hf',HX.out]; rfl
        clear HK HE HD
        go_wp2
        go_ret
        exact ⟨⟨_,rfl,by rw [hres.out]; exact hkey.out⟩,HB0.out.trans ((HB.out.alloc hz _).mono HB0.out.size)⟩
    · exfalso
      obtain rfl:k=l.length:=by omega
      have h1:=HE.out rfl
      rw [List.take_length,HT.out,HR2.out] at h1
      cases h1
end Go.Proofs.YtllaekopaglolaaGreat
end
/-
  The kinds of stores: their constructors,their methods.
-/
section
namespace Go.Proofs.YtllaekopaglolaaGreat
open Go.RowKit
set_option maxRecDepth 100000 in
theorem newDense_any (w:World):Calls Tryz.prog 54 #[] w fun e w'=>∃ p,e = .returned (.pointer (some ⟨p,0,none⟩))∧DEmpty p [] 124 w'∧w.heap.size≤p∧Fr (fun _=>False) w w':=by
  go_enter Tryz.func54,Tryz.ntmps54
  go_wp2
  go_ret
  exact ⟨w.heap.size,rfl,heap_alloc_new w _,Nat.le_refl _,(Fr.refl _ w).alloc _⟩
end Go.Proofs.YtllaekopaglolaaGreat
end
/-
  What a store of a kind is to do: for all kinds alike. What is kept,by counts.
-/
section
namespace Go.Proofs.YtllaekopaglolaaGreat
open Go.RowKit
theorem cnt_kept0 {kind most:Int} (h3:kind≠3) (h4:kind≠4) (xs:Bins):cntB (keptB kind most xs)=cntB xs:=by
  unfold keptB; rw [if_neg h3,if_neg h4,cntB_summed]
structure StoreKind (kind:Int) where
  T:TypeId
  fAdd:FuncId
  fKey:FuncId
  St:Int→Bins→(Nat→Prop)→Nat→World→Prop
  mAdd:∀ p w,(method 339 T (.pointer (some ⟨p,0,none⟩)) "AddWithCount").run Tryz.prog w = .ok (fAdd,.pointer (some ⟨p,0,none⟩)) w
  mKey:∀ p w,(method 339 T (.pointer (some ⟨p,0,none⟩)) "KeyAtRank").run Tryz.prog w = .ok (fKey,.pointer (some ⟨p,0,none⟩)) w
  eAdd:∀ args w,(callFunc fAdd args).run Tryz.prog w = .ok (.enter fAdd args) w
  eKey:∀ args w,(callFunc fKey args).run Tryz.prog w = .ok (.enter fKey args) w
  new:∀ most w,knownB kind most=true→Calls Tryz.prog 35 #[.int .i64 kind,.int .i64 most] w fun e w'=>∃ p S,e = .returned (.iface T (.pointer (some ⟨p,0,none⟩)))∧St most [] S p w'∧(∀ k,S k→w.heap.size≤k)∧Fr (fun _=>False) w w'
  add:∀ most xs S p i c w,knownB kind most=true→St most xs S p w→InR xs→Pos xs→tot xs+c<1000000000→xs.length<1000 → -10000≤i→i≤10000→0<c →
    Calls Tryz.prog fAdd #[.pointer (some ⟨p,0,none⟩),.int .i64 i,.float .f64 (nf c)] w fun e w'=>e = .returned (.tuple #[])∧∃ S',St most (xs++[(i,c)]) S' p w'∧Fr S w w'∧∀ k,S' k→S k∨w.heap.size≤k
  key:∀ most xs S p r w,knownB kind most=true→St most xs S p w→InR xs→Pos xs→tot xs<1000000000→xs.length≤60→(FloatKind.f64.format.order r 0 == some .lt)=false→fgt2 (nf 0) r=false→fgt2 (nf (tot xs)) r=true →
    Calls Tryz.prog fKey #[.pointer (some ⟨p,0,none⟩),.float .f64 r] w fun e w'=>(∃ K,e = .returned (.int .i64 K)∧KeyIs (cntB (keptB kind most xs)) r K)∧∃ S',St most xs S' p w'∧Fr S w w'∧∀ k,S' k→S k∨w.heap.size≤k
  fr:∀ most xs S p S2 w w',St most xs S p w→Fr S2 w w'→(∀ k,S k→¬ S2 k)→St most xs S p w'
  lt:∀ most xs S p w,St most xs S p w→∀ k,S k→k<w.heap.size
end Go.Proofs.YtllaekopaglolaaGreat
end
/-
  The dense store,as one of its kind.
-/
section
namespace Go.Proofs.YtllaekopaglolaaGreat
open Go.RowKit
theorem mAddDn (p:Nat) (w:World):(method 339 93 (.pointer (some ⟨p,0,none⟩)) "AddWithCount").run Tryz.prog w = .ok (168,.pointer (some ⟨p,0,none⟩)) w:=by kernel_rfl
theorem mKeyDn (p:Nat) (w:World):(method 339 93 (.pointer (some ⟨p,0,none⟩)) "KeyAtRank").run Tryz.prog w = .ok (176,.pointer (some ⟨p,0,none⟩)) w:=by kernel_rfl
def StD (_most:Int) (xs:Bins) (S:Nat→Prop) (p:Nat) (w:World):Prop :=
  (xs=[]∧DEmpty p [] 124 w∧∀ k,S k↔k=p) ∨
  ∃ mn mx g L cp,FullPre (cntB xs) (tot xs) mn mx p g L cp [] 124 w∧0<cntB xs mn∧0<cntB xs mx∧∀ k,S k↔k=p∨k=g
theorem tot_snoc (xs:Bins) (i:Int) (c:Nat):tot (xs++[(i,c)])=tot xs+c:=by rw [tot_append]; rfl
theorem StD.fr {most:Int} {xs:Bins} {S S2:Nat→Prop} {p:Nat} {w w':World} (h:StD most xs S p w) (hf:Fr S2 w w') (hn:∀ k,S k→¬ S2 k):StD most xs S p w':=by
  rcases h with ⟨h1,h2,h3⟩ | ⟨mn,mx,g,L,cp,h1,h2,h3,h4⟩
  · exact .inl ⟨h1,DS.fr h2 hf (hn p ((h3 p).2 rfl)),h3⟩
  · exact .inr ⟨mn,mx,g,L,cp,{ h1 with ok:=h1.ok.fr hf (hn p ((h4 p).2 (.inl rfl))) (hn g ((h4 g).2 (.inr rfl))) },h2,h3,h4⟩
theorem StD.add {most:Int} {xs:Bins} {S:Nat→Prop} {p:Nat} {i:Int} {c:Nat} {w:World} (h:StD most xs S p w) (hr:InR xs) (ht:tot xs+c<1000000000) (b1:-10000≤i) (b2:i≤10000) (hc:0<c) :
    Calls Tryz.prog 168 #[.pointer (some ⟨p,0,none⟩),.int .i64 i,.float .f64 (nf c)] w fun e w'=>e = .returned (.tuple #[])∧∃ S',StD most (xs++[(i,c)]) S' p w'∧Fr S w w'∧∀ k,S' k→S k∨w.heap.size≤k:=by
  rcases h with ⟨rfl,h2,h3⟩ | ⟨mn,mx,g,L,cp,h1,h2,h3,h4⟩
  · have H:=addD_any (fun _=>0) 0 c i i i p none [] 124 w hc (by omega) (Nat.le_refl _) (Int.le_refl _) (Int.le_refl _) (by rw [nf_zero]; exact normE_any i p [] 124 w h2 b1 b2)
    refine H.mono ?_
    rintro e w' ⟨g',L,cp,rfl,hok,hpg,hL,hf,hg⟩
    refine ⟨rfl,fun k=>k=p∨k=g',.inr ⟨i,i,g',L,cp,⟨?_,hpg,fun j hj=>?_,Int.le_refl _,by rw [tot_snoc]; simp [tot]; exact hc,by rw [tot_snoc]; simp [tot]; omega,b1,b2,hL⟩,?_,?_,fun k=>Iff.rfl⟩,hf.mono (fun k _ hk=>?_),fun k hk=>?_⟩
    · rw [tot_snoc]
      exact hok
    · show (if j=i then 0+c else 0)=0
      rw [if_neg (by omega)]
    · show 0<if i=i then 0+c else 0
      rw [if_pos rfl]; omega
    · show 0<if i=i then 0+c else 0
      rw [if_pos rfl]; omega
    · rcases hk with hk | hk
      · exact (h3 k).2 hk
      · cases hk
    · rcases hk with hk | hk
      · exact .inl ((h3 k).2 hk)
      · rcases hg with hg | hg
        · cases hg
        · right; omega
  · have hti:cntB xs i≤tot xs:=by rw [← tot2_cnt hr]; exact one_le_tot _ _ b1 b2
    have H:=addD_any (cntB xs) (tot xs) c i (min i mn) (max i mx) p (some g) [] 124 w hc (by omega) hti (by omega) (by omega) (normF_any (cntB xs) (tot xs) i mn mx p g L cp [] 124 w h1 b1 b2)
    refine H.mono ?_
    rintro e w' ⟨g',L',cp',rfl,hok,hpg,hL,hf,hg⟩
    have hle:=h1.le
    have hcs:=cntB_snoc xs (i,c)
    refine ⟨rfl,fun k=>k=p∨k=g',.inr ⟨min i mn,max i mx,g',L',cp',⟨?_,hpg,fun j hj=>?_,by omega,by rw [tot_snoc]; omega,by rw [tot_snoc]; omega,by have:=h1.lo; omega,by have:=h1.hi; omega,hL⟩,?_,?_,fun k=>Iff.rfl⟩,hf.mono (fun k _ hk=>?_),fun k hk=>?_⟩
    · rw [tot_snoc,hcs]
      exact hok
    · rw [hcs]
      show (if j=i then cntB xs j+c else cntB xs j)=0
      rw [if_neg (by omega),h1.zero j (by omega)]
    · rw [hcs]
      show 0<if min i mn=i then cntB xs (min i mn)+c else cntB xs (min i mn)
      split
      · omega
      · rw [show min i mn=mn from by omega]; exact h2
    · rw [hcs]
      show 0<if max i mx=i then cntB xs (max i mx)+c else cntB xs (max i mx)
      split
      · omega
      · rw [show max i mx=mx from by omega]; exact h3
    · rcases hk with hk | hk
      · exact (h4 k).2 (.inl hk)
      · exact (h4 k).2 (.inr (Option.some.inj hk).symm)
    · rcases hk with hk | hk
      · exact .inl ((h4 k).2 (.inl hk))
      · rcases hg with hg | hg
        · exact .inl ((h4 k).2 (.inr (by rw [hk]; exact (Option.some.inj hg).symm)))
        · right; omega
set_option maxRecDepth 100000 in
theorem emptyD_any (most:Int) (w:World):Calls Tryz.prog 35 #[.int .i64 0,.int .i64 most] w fun e w'=>∃ p S,e = .returned (.iface 93 (.pointer (some ⟨p,0,none⟩)))∧StD most [] S p w'∧(∀ k,S k→w.heap.size≤k)∧Fr (fun _=>False) w w':=by
  go_enter Tryz.func35,Tryz.ntmps35
  go_wp2_with (go_at_call 54; (with_reducible refine (newDense_any _).mono ?_); rintro e w' ⟨p,rfl,h1,h2,h3⟩; have H1:=Lib.hid h1; have H2:=Lib.hid h2; have H3:=Lib.hid h3; clear h1 h2 h3)
  go_ret
  exact ⟨p,fun k=>k=p,rfl,.inl ⟨rfl,H1.out,fun k=>Iff.rfl⟩,fun k hk=>by rw [hk]; exact H2.out,H3.out⟩
def kindD:StoreKind 0 where
  T:=93
  fAdd:=168
  fKey:=176
  St:=StD
  mAdd:=mAddDn
  mKey:=mKeyDn
  eAdd:=enters_of Tryz.func168 (by kernel_rfl) rfl
  eKey:=enters_of Tryz.func176 (by kernel_rfl) rfl
  new:=fun most w _=>emptyD_any most w
  add:=fun most xs S p i c w _ h hr _ ht _ b1 b2 hc=>h.add hr ht b1 b2 hc
  key:=fun most xs S p r w _ h hr hp ht _ hr0 hr1 hr2=>by
    rcases h with ⟨rfl,_,_⟩ | ⟨mn,mx,g,L,cp,h1,h2,h3,h4⟩
    · rw [show tot []=0 from rfl] at hr2; rw [hr1] at hr2; cases hr2
    · have H:=keyD_any (cntB xs) (tot xs) r mn mx p g L cp [] 124 w h1.ok h1.zero (tot2_cnt hr).symm h1.lt h1.lo h1.hi (by have:=h1.len; omega) hr0 hr1 hr2
      refine H.mono ?_
      rintro e w' ⟨⟨K,rfl,hk⟩,rfl⟩
      exact ⟨⟨K,rfl,by rw [cnt_kept0 (by decide) (by decide)]; exact hk⟩,S,.inr ⟨mn,mx,g,L,cp,h1,h2,h3,h4⟩,Fr.refl _ _,fun k hk=>.inl hk⟩
  fr:=fun _ _ _ _ _ _ _ h hf hn=>h.fr hf hn
  lt:=fun most xs S p w h k hk=>by
    rcases h with ⟨_,h2,h3⟩ | ⟨mn,mx,g,L,cp,h1,_,_,h4⟩
    · rw [(h3 k).1 hk]; exact DS.lt h2
    · obtain ⟨off,hd,hrw,_⟩:=h1.ok
      rcases (h4 k).1 hk with e | e
      · rw [e]; exact hd.lt
      · rw [e]; exact hrw.lt
end Go.Proofs.YtllaekopaglolaaGreat
end
/-
  For the store with pages,plainly: shifts and masks; counts of a list of indexes; the walk over both at once.
-/
section
namespace Go.Proofs.YtllaekopaglolaaGreat
open Go.RowKit Ieee
theorem bits31 (x:Int):bits .and .i64 x 31=x % 32:=by
  show IntKind.i64.wrap (((BitVec.ofInt 64 x) &&& (BitVec.ofInt 64 31)).toNat:Int)=_
  rw [BitVec.toNat_and,show (BitVec.ofInt 64 31).toNat=31 from rfl,nat_mask5,BitVec.toNat_ofInt,IntKind.wrap_i64]
  omega
theorem bitsM8 (x:Nat) (h:x<1000000):bits .and .i64 (x:Int) (-8)=((x / 8*8:Nat):Int):=by
  show IntKind.i64.wrap (((BitVec.ofInt 64 (x:Int)) &&& (BitVec.ofInt 64 (-8))).toNat:Int)=_
  rw [BitVec.toNat_and,show (BitVec.ofInt 64 (-8)).toNat=2^64 - 2^3 from by decide +kernel,nat_midmask 64 3 _ (by decide),BitVec.toNat_ofInt,IntKind.wrap_i64]
  rw [show ((x:Int) % ((2^64:Nat):Int)).toNat=x from by omega,Nat.mod_eq_of_lt (a:=x) (b:=2^64) (by omega)]
  omega
theorem fgt2_mono {a b r:Nat} (hab:a≤b) (hb:b<9007199254740992) (h:fgt2 (nf a) r=true):fgt2 (nf b) r=true:=by
  obtain ⟨m,i,h1,h2,h3⟩:=nf_read a (by omega)
  obtain ⟨n,j,k1,k2,k3⟩:=nf_read b hb
  unfold fgt2 at *
  have e:∀ x y,FloatKind.f64.format.order x y=(double.read x).order (double.read y):=fun _ _=>rfl
  rw [e,h1] at h
  rw [e,k1]
  cases hr:double.read r with
  | number s q p =>
    obtain ⟨hp,_,_⟩:=read_number hr
    rw [hr,order_sv _ _ _ _ _ _ h2 hp,h3] at h
    rw [order_sv _ _ _ _ _ _ k2 hp,k3]
    have h4:sv s q p<(a:Int)*2^1074:=by
      generalize (a:Int)*2^1074=V at h ⊢
      generalize sv s q p=U at h ⊢
      rcases Int.lt_trichotomy U V with h5 | h5 | h5
      · exact h5
      · rw [h5] at h; simp at h
      · rw [Int.compare_eq_lt.2 h5] at h; cases h
    have h6:(a:Int)*2^1074≤(b:Int)*2^1074:=Int.mul_le_mul_of_nonneg_right (by omega) (Int.le_of_lt pow1074_pos)
    rw [Int.compare_eq_gt.2 (Int.lt_of_lt_of_le h4 h6)]
    rfl
  | infinity s=>rw [hr] at h; exact h
  | nan=>rw [hr] at h; cases h
def cntI (bs:List Int):Int→Nat:=cntB (bs.map fun b=>(b,1))
theorem cntI_cons (b:Int) (bs:List Int):cntI (b :: bs)=addAt (cntI bs) b 1:=rfl
theorem cntI_snoc (bs:List Int) (b:Int):cntI (bs++[b])=addAt (cntI bs) b 1:=by
  unfold cntI; rw [List.map_append]; exact cntB_snoc _ (b,1)
theorem cntI_perm {a b:List Int} (h:a.Perm b):cntI a=cntI b:=by
  induction h with
  | nil=>rfl
  | cons x _ ih=>rw [cntI_cons,cntI_cons,ih]
  | swap x y l=>rw [cntI_cons,cntI_cons,cntI_cons,cntI_cons,addAt_comm]
  | trans _ _ h1 h2=>rw [h1,h2]
def InI (bs:List Int):Prop:=∀ b∈bs,-10000≤b∧b≤10000
theorem cntI_mem {bs:List Int} {x:Int} (h:x∈bs):0<cntI bs x:=by
  induction bs with
  | nil=>cases h
  | cons b t ih =>
    rw [cntI_cons]; unfold addAt
    split
    · omega
    · rcases List.mem_cons.1 h with h | h
      · rename_i hn; exact absurd h hn
      · exact ih h
theorem cum_cntI {bs:List Int} (h:InI bs) (x:Int):cum (cntI bs) x=(bs.filter fun b=>decide (b<x)).length:=by
  induction bs with
  | nil=>exact cum_none _ _ (fun _ _=>rfl)
  | cons b t ih =>
    rw [cntI_cons,cum_addAt _ _ _ _ (h b List.mem_cons_self).1,ih (fun c hc=>h c (List.mem_cons_of_mem _ hc))]
    by_cases c:b<x
    · rw [if_pos c,List.filter_cons_of_pos (by simp; omega)]; rfl
    · rw [if_neg c,List.filter_cons_of_neg (by simp; omega)]; rfl
theorem cum_cntI_ge {bs:List Int} (h:InI bs) (x:Int) (k:Nat) (hk:k≤bs.length) (hl:∀ j,(hj:j<bs.length)→j<k→bs[j]<x):k≤cum (cntI bs) x:=by
  have e:(bs.take k).filter (fun b=>decide (b<x))=bs.take k:=List.filter_eq_self.2 (fun b hb=>by
    obtain ⟨j,hj,rfl⟩:=List.getElem_of_mem hb
    rw [List.length_take] at hj
    rw [List.getElem_take]
    have:=hl j (by omega) (by omega)
    simpa using this)
  rw [cum_cntI h,← List.take_append_drop k bs,List.filter_append,List.length_append,e,List.length_take]
  omega
theorem cum_cntI_le {bs:List Int} (h:InI bs) (x:Int) (k:Nat) (hk:k≤bs.length) (hl:∀ j,(hj:j<bs.length)→k≤j→x≤bs[j]):cum (cntI bs) x≤k:=by
  have e:(bs.drop k).filter (fun b=>decide (b<x))=[]:=List.filter_eq_nil_iff.2 (fun b hb=>by
    obtain ⟨j,hj,rfl⟩:=List.getElem_of_mem hb
    rw [List.length_drop] at hj
    rw [List.getElem_drop]
    have:=hl (k+j) (by omega) (by omega)
    simpa using this)
  rw [cum_cntI h,← List.take_append_drop k bs,List.filter_append,List.length_append,e]
  have:=List.length_filter_le (fun b=>decide (b<x)) (bs.take k)
  rw [List.length_take] at this
  simp only [List.length_nil]; omega
theorem sumF_plus (f g:Int→Nat) (a:Int) (k:Nat):sumF (fun i=>f i+g i) a k=sumF f a k+sumF g a k:=by
  induction k with
  | zero=>rfl
  | succ k ih=>rw [sumF,sumF,sumF,ih]; omega
theorem cum_plus (f g:Int→Nat) (x:Int):cum (fun i=>f i+g i) x=cum f x+cum g x:=sumF_plus _ _ _ _
theorem cum_step {f:Int→Nat} (hz:∀ i,i < -10000→f i=0) (x:Int):cum f (x+1)=cum f x+f x:=by
  by_cases h:-10000≤x
  · exact cum_succ f x h
  · rw [cum_none f x (fun i hi=>hz i (by omega)),cum_none f (x+1) (fun i hi=>hz i (by omega)),hz x (by omega)]
def both (G:Int→Nat) (bs:List Int):Int→Nat:=fun i=>G i+cntI bs i
structure Cur (G:Int→Nat) (bs:List Int) (r:Nat) (x:Int) (bp:Nat):Prop where
  le:bp≤bs.length
  lt:∀ j,(hj:j<bs.length)→j<bp→bs[j]<x
  gap:∀ j,(hj:j<bs.length)→bp≤j→∀ i,bs[j]<i→i<x→G i=0
  no:fgt2 (nf (cum G x+bp)) r=false
section
variable {G:Int→Nat} {bs:List Int} {r:Nat} {x:Int} {bp:Nat}
theorem Cur.take (h:Cur G bs r x bp) (hj:bp<bs.length) (hx:bs[bp]<x) (hno:fgt2 (nf (cum G x+(bp+1))) r=false):Cur G bs r x (bp+1) where
  le:=hj
  lt:=fun j hj2 hjb=>by
    by_cases e:j=bp
    · subst e; exact hx
    · exact h.lt j hj2 (by omega)
  gap:=fun j hj2 hjb=>h.gap j hj2 (by omega)
  no:=hno
theorem Cur.found (h:Cur G bs r x bp) (hI:InI bs) (hs:bs.Pairwise (· ≤ ·)) (hG:∀ i,i < -10000∨10000<i→G i=0) (hT:tot2 G+bs.length<9007199254740992) (hj:bp<bs.length) (hxle:bs[bp]<x)
   (hyes:fgt2 (nf (cum G x+(bp+1))) r=true):KeyIs (both G bs) r bs[bp]:=by
  have hle:∀ i j,(hi:i<bs.length)→(hj:j<bs.length)→i≤j→bs[i]≤bs[j]:=fun i j hi hj hij=>by
    rcases Nat.lt_or_eq_of_le hij with h | h
    · exact List.pairwise_iff_getElem.1 hs i j hi hj h
    · subst h; exact Int.le_refl _
  have hcG:∀ y,cum G y≤tot2 G:=fun y=>by
    by_cases c:y≤10001
    · exact cum_le_tot G y c
    · rw [tot2_def,cum_same G 10001 y (by omega) (fun i h1 _=>hG i (.inr (by omega)))]; omega
  refine ⟨?_,fun y hy=>?_⟩
  · have e:cum G (bs[bp]+1)=cum G x:=(cum_same G (bs[bp]+1) x (by omega) (fun i h1 h2=>h.gap bp hj (Nat.le_refl _) i (by omega) h2)).symm
    unfold both
    rw [cum_plus,e]
    have h1:=cum_cntI_ge hI (bs[bp]+1) (bp+1) hj (fun j hj2 hjb=>by have:=hle j bp hj2 hj (by omega); omega)
    refine fgt2_mono (Nat.add_le_add_left h1 _) ?_ hyes
    have:=hcG x
    rw [cum_cntI hI]
    have:=List.length_filter_le (fun b=>decide (b<bs[bp]+1)) bs
    omega
  · unfold both
    rw [cum_plus]
    have h1:=cum_cntI_le hI (y+1) bp h.le (fun j hj2 hjb=>by have:=hle bp j hj hj2 hjb; omega)
    have h2:=cum_mono G (y+1) x (by omega)
    cases hc:fgt2 (nf (cum G (y+1)+cum (cntI bs) (y+1))) r
    · rfl
    · have:=fgt2_mono (show cum G (y+1)+cum (cntI bs) (y+1)≤cum G x+bp from by omega) (by have:=hcG x; have:=h.le; omega) hc
      rw [h.no] at this; cases this
theorem Cur.at (h:Cur G bs r x bp) (hI:InI bs) (hG:∀ i,i < -10000∨10000<i→G i=0) (hT:tot2 G+bs.length<9007199254740992) (hrest:∀ j,(hj:j<bs.length)→bp≤j→x≤bs[j])
   (hyes:fgt2 (nf (cum G (x+1)+bp)) r=true):KeyIs (both G bs) r x:=by
  have hcG:∀ y,cum G y≤tot2 G:=fun y=>by
    by_cases c:y≤10001
    · exact cum_le_tot G y c
    · rw [tot2_def,cum_same G 10001 y (by omega) (fun i h1 _=>hG i (.inr (by omega)))]; omega
  refine ⟨?_,fun y hy=>?_⟩
  · unfold both
    rw [cum_plus]
    have h1:=cum_cntI_ge hI (x+1) bp h.le (fun j hj2 hjb=>by have:=h.lt j hj2 hjb; omega)
    refine fgt2_mono (Nat.add_le_add_left h1 _) ?_ hyes
    have:=hcG (x+1)
    rw [cum_cntI hI]
    have:=List.length_filter_le (fun b=>decide (b<x+1)) bs
    omega
  · unfold both
    rw [cum_plus]
    have h1:=cum_cntI_le hI (y+1) bp h.le (fun j hj2 hjb=>by have:=hrest j hj2 hjb; omega)
    have h2:=cum_mono G (y+1) x (by omega)
    cases hc:fgt2 (nf (cum G (y+1)+cum (cntI bs) (y+1))) r
    · rfl
    · have:=fgt2_mono (show cum G (y+1)+cum (cntI bs) (y+1)≤cum G x+bp from by omega) (by have:=hcG x; have:=h.le; omega) hc
      rw [h.no] at this; cases this
theorem Cur.next (h:Cur G bs r x bp) (hrest:∀ j,(hj:j<bs.length)→bp≤j→x≤bs[j]) (hno:fgt2 (nf (cum G (x+1)+bp)) r=false):Cur G bs r (x+1) bp where
  le:=h.le
  lt:=fun j hj hjb=>by have:=h.lt j hj hjb; omega
  gap:=fun j hj hjb i h1 h2=>by have:=hrest j hj hjb; omega
  no:=hno
theorem Cur.skip (h:Cur G bs r x bp) (y:Int) (hy:x≤y) (hz:∀ i,x≤i→i<y→G i=0):Cur G bs r y bp where
  le:=h.le
  lt:=fun j hj hjb=>by have:=h.lt j hj hjb; omega
  gap:=fun j hj hjb i h1 h2=>by
    by_cases c:i<x
    · exact h.gap j hj hjb i h1 c
    · exact hz i (by omega) h2
  no:=by rw [cum_same G x y hy hz]; exact h.no
end
def below (F:Int→Nat) (y:Int):Bins:=nz F (-10000) (y+10000).toNat
end Go.Proofs.YtllaekopaglolaaGreat
end
