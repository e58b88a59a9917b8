/-
  The library's SortFunc at bins: its laying at this program (by the kit's tool lay-plain).
-/
import Derived.Shelf.SlGeneric
import Derived.Shelf.SlSortCmp.NoneTotal
import Derived.Ground.SlsfProg
import Derived.Test.YtllaekopaglolaaGreatProg
import Derived.Test.YtllaekopaglolaaGreatHAR
import Derived.Test.YtllaekopaglolaaGreatHAQ
import Derived.Laws.OwnMore
section
namespace Go.Proofs
open Go.Shelf
def Tryz.sortBins_ren:Go.Shelf.Ren:=⟨fun | 6=>212 | 15=>215 | 14=>216 | 28=>226 | 29=>227 | 20=>228 | 21=>229 | 22=>230 | 23=>231 | 24=>232 | 25=>233 | 26=>234 | 27=>235 | 46=>242 | 47=>237 | 48=>238 | 49=>243 | 50=>244 | 57=>246 | n=>n,fun | 22=>187 | 24=>189 | 25=>194 | 3=>3 | 39=>82 | 0=>0 | 53=>160 | 55=>42 | 4=>4 | 46=>200 | 45=>199 | 50=>205 | 5=>5 | 9=>9 | 66=>214 | 70=>218 | 76=>223 | 77=>224 | n=>n,fun | n=>n⟩
theorem Tryz.sortBins:Go.Proofs.SlLaysF0.n6 Tryz.prog Tryz.sortBins_ren:={
  mixed:=by kernel_rfl
  f6:=⟨Tryz.f212.name,by decide,Tryz.func212.trans (congrArg some (by kernel_rfl))⟩
  f14:=⟨Tryz.f216.name,by decide,Tryz.func216.trans (congrArg some (by kernel_rfl))⟩
  f15:=Tryz.func215.trans (congrArg some (by kernel_rfl))
  f20:=⟨Tryz.f228.name,by decide,Tryz.func228.trans (congrArg some (by kernel_rfl))⟩
  f21:=⟨Tryz.f229.name,by decide,Tryz.func229.trans (congrArg some (by kernel_rfl))⟩
  f22:=⟨Tryz.f230.name,by decide,Tryz.func230.trans (congrArg some (by kernel_rfl))⟩
  f23:=⟨Tryz.f231.name,by decide,Tryz.func231.trans (congrArg some (by kernel_rfl))⟩
  f24:=⟨Tryz.f232.name,by decide,Tryz.func232.trans (congrArg some (by kernel_rfl))⟩
  f25:=⟨Tryz.f233.name,by decide,Tryz.func233.trans (congrArg some (by kernel_rfl))⟩
  f26:=⟨Tryz.f234.name,by decide,Tryz.func234.trans (congrArg some (by kernel_rfl))⟩
  f27:=⟨Tryz.f235.name,by decide,Tryz.func235.trans (congrArg some (by kernel_rfl))⟩
  f28:=Tryz.func226.trans (congrArg some (by kernel_rfl))
  f29:=Tryz.func227.trans (congrArg some (by kernel_rfl))
  f46:=⟨Tryz.f242.name,by decide,Tryz.func242.trans (congrArg some (by kernel_rfl))⟩
  f47:=Tryz.func237.trans (congrArg some (by kernel_rfl))
  f48:=Tryz.func238.trans (congrArg some (by kernel_rfl))
  f49:=⟨Tryz.f243.name,by decide,Tryz.func243.trans (congrArg some (by kernel_rfl))⟩
  f50:=⟨Tryz.f244.name,by decide,Tryz.func244.trans (congrArg some (by kernel_rfl))⟩
  f57:=⟨Tryz.f246.name,by decide,Tryz.func246.trans (congrArg some (by kernel_rfl))⟩
  t0:=Tryz.underlying0
  a0:=Tryz.isAgg0
  z0:=Tryz.sizeOf0
  v0:=Tryz.zeroValue0
  t3:=Tryz.underlying3
  a3:=Tryz.isAgg3
  z3:=Tryz.sizeOf3
  v3:=Tryz.zeroValue3
  t4:=Tryz.underlying4
  a4:=Tryz.isAgg4
  z4:=Tryz.sizeOf4
  v4:=Tryz.zeroValue4
  t5:=Tryz.underlying5
  a5:=Tryz.isAgg5
  z5:=Tryz.sizeOf5
  v5:=Tryz.zeroValue5
  t9:=Tryz.underlying9
  a9:=Tryz.isAgg9
  z9:=Tryz.sizeOf9
  v9:=Tryz.zeroValue9
  t22:=Tryz.underlying187
  a22:=Tryz.isAgg187
  z22:=Tryz.sizeOf187
  v22:=Tryz.zeroValue187
  t25:=Tryz.underlying194
  a25:=Tryz.isAgg194
  z25:=Tryz.sizeOf194
  v25:=Tryz.zeroValue194
  t39:=Tryz.underlying82
  a39:=Tryz.isAgg82
  z39:=Tryz.sizeOf82
  v39:=Tryz.zeroValue82
  t45:=Tryz.underlying199
  a45:=Tryz.isAgg199
  z45:=Tryz.sizeOf199
  v45:=Tryz.zeroValue199
  t46:=Tryz.underlying200
  a46:=Tryz.isAgg200
  z46:=Tryz.sizeOf200
  v46:=Tryz.zeroValue200
  t50:=Tryz.underlying205
  a50:=Tryz.isAgg205
  z50:=Tryz.sizeOf205
  v50:=Tryz.zeroValue205
  t53:=Tryz.underlying160
  a53:=Tryz.isAgg160
  z53:=Tryz.sizeOf160
  v53:=Tryz.zeroValue160
  t55:=Tryz.underlying42
  a55:=Tryz.isAgg42
  z55:=Tryz.sizeOf42
  v55:=Tryz.zeroValue42
  t66:=Tryz.underlying214
  a66:=Tryz.isAgg214
  z66:=Tryz.sizeOf214
  v66:=Tryz.zeroValue214
  t70:=Tryz.underlying218
  a70:=Tryz.isAgg218
  z70:=Tryz.sizeOf218
  v70:=Tryz.zeroValue218
  t76:=Tryz.underlying223
  a76:=Tryz.isAgg223
  z76:=Tryz.sizeOf223
  v76:=Tryz.zeroValue223
  t77:=Tryz.underlying224
  a77:=Tryz.isAgg224
  z77:=Tryz.sizeOf224
  v77:=Tryz.zeroValue224 }
end Go.Proofs
end
/-
  The sparse store's ordered bins.
-/
section
namespace Go.Proofs.YtllaekopaglolaaGreat
open Go.RowKit Go.Maps Go.Sort Go.Shelf
def encB (f:Int→Nat) (x:Fin 20001):List Value:=[.int .i64 ((x.val:Int) - 10000),.float .f64 (nf (f ((x.val:Int) - 10000)))]
set_option maxRecDepth 100000 in
theorem zUy (f:Int→Nat) (x y:Fin 20001) (W:World) :
    Calls Tryz.prog 213 #[.agg (encB f x).toArray,.agg (encB f y).toArray] W fun e w'=>e = .returned (.int .i64 ((x.val:Int) - (y.val:Int)))∧∃ q os',w'=grow (W.drewN q) os':=by
  have hx:=x.isLt
  have hy:=y.isLt
  unfold encB
  obtain ⟨a,ha⟩:∃ a:Int,a=(x.val:Int) - 10000:=⟨_,rfl⟩
  obtain ⟨b,hb⟩:∃ b:Int,b=(y.val:Int) - 10000:=⟨_,rfl⟩
  have i1:IntKind.i64.wrap (a - b)=a - b:=by rw [IntKind.wrap_i64]; omega
  rw [← ha,← hb,show (x.val:Int) - (y.val:Int)=a - b from by omega]
  generalize nf (f a)=fa
  generalize nf (f b)=fb
  clear ha hb hx hy
  go_enter Tryz.func213,Tryz.ntmps213
  go_wp2
  go_ret
  exact ⟨rfl,0,_,by rw [alloc_eq_grow,alloc_eq_grow,grow_grow]; rfl⟩
def cfB (x y:Fin 20001):Int:=(x.val:Int) - (y.val:Int)
theorem ltB (x y:Fin 20001):ltOf cfB x y=decide (x.val<y.val):=by
  unfold ltOf cfB
  by_cases h:x.val<y.val
  · rw [decide_eq_true h,decide_eq_true (by omega)]
  · rw [decide_eq_false h,decide_eq_false (by omega)]
theorem swoB:SWO (ltOf cfB) where
  irrefl x:=by rw [ltB]; simp
  trans x y z h1 h2:=by rw [ltB] at *; simp at *; omega
  ntrans x y z h1 h2:=by rw [ltB] at *; simp at *; omega
def toF (i:Int):Fin 20001:=⟨(i+10000).toNat % 20001,Nat.mod_lt _ (by decide)⟩
theorem zKN {i:Int} (h1:-10000≤i) (h2:i≤10000):((toF i).val:Int)=i+10000:=by
  show (((i+10000).toNat % 20001:Nat):Int)=_
  rw [Nat.mod_eq_of_lt (by omega)]; omega
theorem zUt (f:Int→Nat) {i:Int} (h1:-10000≤i) (h2:i≤10000):encB f (toF i)=[.int .i64 i,.float .f64 (nf (f i))]:=by
  unfold encB
  rw [zKN h1 h2,show i+10000 - 10000=i from by omega]
theorem zWi (ps:List (Int × Nat)) (k:Nat) (h:k<ps.length):(pc ps)[2*k]?=some (.int .i64 ps[k].1)∧(pc ps)[2*k+1]?=some (.float .f64 ps[k].2):=by
  induction ps generalizing k with
  | nil=>simp at h
  | cons p t ih =>
    cases k with
    | zero=>exact ⟨rfl,rfl⟩
    | succ k =>
      have:=ih k (by simpa using h)
      rw [show 2*(k+1)=2*k+1+1 from by omega]
      exact this
theorem zW4 {f:Int→Nat} {zs:List Int} {w:World} {g:Nat} {cur:Array Value} {tE:TypeId} (hg:w.heap[g]?=some (.cells cur tE (0,0))) (ht:cur.toList.take (zs.length*2)=pc (fb (zAh f zs))) (hr:∀ i∈zs,-10000≤i∧i≤10000) :
    HoldsK (encB f) 2 w g 0 (zs.map toF).toArray:=by
  intro t h
  rw [size_flatK] at h
  have hsz:(zs.map toF).toArray.size=zs.length:=by simp
  rw [hsz] at h
  refine ⟨?_,frozen_of_row w g _ cur _ hg⟩
  rw [get_flatK _ _ _ _ (by rw [hsz]; exact h)]
  have hk:t / 2<zs.length:=by omega
  have hin:=hr zs[t / 2] (List.getElem_mem hk)
  have e1:(zs.map toF).toArray[t / 2]! = toF zs[t / 2]:=by
    rw [getElem!_pos _ _ (by rw [hsz]; exact hk)]; simp
  have hpl:t / 2<(fb (zAh f zs)).length:=by rw [zBi,zBG]; exact hk
  obtain ⟨c0,c1⟩:=zWi (fb (zAh f zs)) (t / 2) hpl
  have e2:(fb (zAh f zs))[t / 2]=(zs[t / 2],nf (f zs[t / 2])):=by rw [zSn]; simp [zAh]
  rw [e2] at c0 c1
  rw [e1,zUt f hin.1 hin.2]
  have hcell:∀ v,(pc (fb (zAh f zs)))[t]?=some v→w.cell? ⟨g,0+t,none⟩=some v:=by
    intro v hv
    rw [← ht,List.getElem?_take_of_lt h,Array.getElem?_toList] at hv
    rw [Nat.zero_add,← hv]
    exact cell_of_row w g t cur tE _ hg
  rcases Nat.mod_two_eq_zero_or_one t with h2 | h2
  · rw [show 2*(t / 2)=t from by omega] at c0
    rw [h2]
    exact hcell _ c0
  · rw [show 2*(t / 2)+1=t from by omega] at c1
    rw [h2]
    exact hcell _ c1
theorem zRV (f:Int→Nat) (zs:List Int) (ar:Option Addr) (cr:Nat) (w:World) (hown:w.ownsRow 0 189 2 (.slice ar zs.length cr) zs.length (pc (fb (zAh f zs)))) (hr:∀ i∈zs,-10000≤i∧i≤10000) (hs:zs.Pairwise (· ≤ ·)) (hl:zs.length<1000000000) :
    Calls Tryz.prog 212 #[.slice ar zs.length cr,.func (.func 213) #[] #[]] w fun e w'=>e = .returned (.tuple #[])∧Below w.heap.size w w':=by
  rcases id hown.2 with ⟨hv,hl0⟩ | ⟨g,cap,cur,hv,hb,hg,hn,hmx,hsz,ht⟩
  · obtain ⟨rfl,hz0,rfl⟩:ar=none∧zs.length=0∧cr=0:=by simpa using hv
    rw [hz0]
    exact (AnyF.slices_SortFunc_none Tryz.sortBins none 0 _ w).mono fun e w' h=>⟨h.1,by rw [h.2]; exact Below.refl _ _⟩
  · obtain ⟨rfl,rfl⟩:ar=some ⟨g,0,none⟩∧cr=cap:=by simpa using hv
    have hH:=zW4 hg ht hr
    have hd:(zs.map toF).toArray.size=zs.length:=by simp
    have eg:∀ args w,(callFunc 213 args).run Tryz.prog w = .ok (.enter 213 args) w:=enters_of Tryz.func213 (by kernel_rfl) rfl
    have h:=AnyQ.slices_SortFunc_total Tryz.sortBins 2 Tryz.isAgg189 Tryz.sizeOf189 (encB f) (fun _=>rfl) (fun x v hv=>by simp [encB] at hv; rcases hv with rfl | rfl <;> rfl) cfB swoB 213 #[] g 0 cr (zs.map toF).toArray w eg (fun _ _ _ _ x y=>zUy f x y _) hH (lt_of_block hg) (by rw [hd]; omega) (fun x y h1 h2=>by rw [ltB] at h1 h2; simp at h1 h2; exact Fin.ext (by omega))
    rw [hd] at h
    refine h.mono fun e w' h=>⟨h.1,?_⟩
    obtain ⟨n,os,rfl⟩:=h.2
    have hsrt:((zs.map toF).toArray.toList.mergeSort fun x y=>!(ltOf cfB) y x).toArray=(zs.map toF).toArray:=by
      congr 1
      refine List.mergeSort_of_pairwise ?_
      show (zs.map toF).Pairwise _
      rw [List.pairwise_map]
      refine List.Pairwise.imp_of_mem (fun {a b} ha hb hab=>?_) hs
      have h1:=zKN (hr a ha).1 (hr a ha).2
      have h2:=zKN (hr b hb).1 (hr b hb).2
      rw [ltB]
      simp
      omega
    rw [hsrt]
    unfold sortWorldK
    rw [putRowK_self _ _ (Sort.ahead w n) g 0 _ (holdsK_ahead _ _ w n g 0 _ hH)]
    exact ⟨rfl,rfl,rfl,by rw [size_grow]; exact Nat.le_add_right _ _,fun k hk=>(heap_grow_old (Sort.ahead w n) os hk).trans rfl⟩
theorem Own2.later {e:TypeId} {w wr w7:World} {v:Value} {ps:List (Int × Nat)} (h:Own2 e w wr v ps) (hb:Below wr.heap.size wr w7):Own2 e w w7 v ps:=by
  refine ⟨⟨(Fr.of_below hb).owns h.1.1 (fun k hk=>?_),h.1.2⟩,h.2.trans (hb.mono h.2.size)⟩
  rcases h.1.1.2 with ⟨h1,_⟩ | ⟨g,cap,cur,hv,_,hg,_⟩
  · rw [h1] at hk; simp [Value.ownBlock] at hk
  · rw [hv] at hk; cases hk; exact Nat.not_le.2 (lt_of_block hg)
def zXP (f:Int→Nat) (zs:List Int) (w w2 wr:World) (v i:Value):Prop :=
  ∃ (k:Nat) (ar:Option Addr) (cr:Nat),k≤zs.length∧i = .int .i64 (k:Int)∧v = .slice ar k cr∧Own2 189 w wr v (fb (zAh f (zs.take k))) ∧
    (∀ q,v.ownBlock=some q→q=w.heap.size∨w2.heap.size≤q)∧Fr (fun q=>q=w.heap.size) w2 wr
def zXU (f:Int→Nat) (w:World) (e:Ending) (w':World):Prop :=
  ∃ zs:List Int,zs.Nodup∧(∀ i,i∈zs↔0<f i)∧zs.Pairwise (· ≤ ·)∧zXT 189 (fb (zAh f zs)) w e w'
set_option maxRecDepth 100000 in
set_option maxHeartbeats 400000 in
theorem zG7 (f:Int→Nat) (p b k:Nat) (w:World) (h:zDY f p b k w) (hk:k≤1000000) (hz:∀ i,i < -10000∨10000<i→f i=0) (hs:tot2 f<1000000000) :
    Calls Tryz.prog 209 #[.pointer (some ⟨p,0,none⟩)] w fun e w'=>zXU f w e w':=by
  obtain ⟨hp,⟨D,ho,hm⟩,hne⟩:=h
  have d0:=cell_of_row _ _ 0 _ _ _ hp
  have hpl:=lt_of_block hp
  have hbw:=ho.lt
  have hsz:=ho.size_le
  obtain ⟨i0,hi,hz0,hz1,hz2⟩:=info_parts Tryz.infoStB
  obtain ⟨w1,hmk,hrow1,hgr1⟩:=run_make_own (P:=Tryz.prog) w 0 187 189 i0 _ 2 Tryz.underlying187 hi hz0 hz1 .i64 .i64 (Maps.size D) (by rw [hz2]; omega) (by unfold maxLen; omega) (Nat.zero_le _)
  have d1:w1.cell? ⟨p,0,none⟩=some (.map (some b)):=by
    have h1:w1.heap[p]?=w.heap[p]?:=hgr1.block p hpl (by simp)
    exact cell_of_row _ _ 0 _ _ _ (h1.trans hp)
  have ho1:=ho.kept hgr1 (by simp)
  have HSO:=zFj f D b k w1 ho1 hm (Nat.le_trans hsz hk)
  have HO1:=Lib.hid ho1
  have HM:=Lib.hid hm
  have HZ:=Lib.hid hz
  have HS:=Lib.hid hs
  have HR1:=Lib.hid hrow1
  have HG1:=Lib.hid hgr1
  have hpl1:p<w1.heap.size:=Nat.lt_of_lt_of_le hpl hgr1.size
  clear hp hm hz hs hne ho1 hrow1 hgr1 hi hz0 hz1 hz2
  go_enter Tryz.func209,Tryz.ntmps209
  go_wp2_with (at_len; refine wpList_len_own _ rfl _ 125 rfl 3 29 Tryz.underlying125 cntR b k D rfl ho ?_)
  go_wp2_with fail
  clear ho d0 hmk
  refine HSO.mono ?_
  clear HSO
  rintro e w2 ⟨zs,ar,cr,rfl,hrow,hbase,hbel,hnd,hmem,hsort⟩
  obtain ⟨hlie,hgl⟩:=zIr hrow
  have hin:=fun i hi=>zBQ hmem HZ.out (i,f i) (List.mem_map.2 ⟨i,hi,rfl⟩)
  have hlen:zs.length<1000000000:=by
    have h1:=zFn (zCn hmem)
    rw [zBG,← zAy (zBQ hmem HZ.out),zB3 hnd hmem] at h1
    have:=HS.out; omega
  have d2:w2.cell? ⟨p,0,none⟩=some (.map (some b)):=(hbel.cell hpl1).trans d1
  have ho2:=HO1.out.kept (zEf hbel) (by simp)
  have HO2:=Lib.hid ho2
  have HL:=Lib.hid hlie
  have HIN:Hid (∀ i∈zs,-10000≤i∧i≤10000):=hin
  have HND:=Lib.hid hnd
  have HMEM:=Lib.hid hmem
  have HSRT:=Lib.hid hsort
  have hw1:w.heap.size<w1.heap.size:=by
    rcases HR1.out.2 with ⟨h1,_⟩ | ⟨g,cap,cur,hv,_,hg,_⟩
    · cases h1
    · cases hv; exact lt_of_block hg
  have hown2:Own2 189 w w2 (.slice (some ⟨w.heap.size,0,none⟩) 0 (Maps.size D)) [] :=
    ⟨⟨(Fr.of_below hbel).owns HR1.out (fun k hk=>by cases hk; exact Nat.not_le.2 hw1),fun k hk=>by cases hk; exact Nat.le_refl _⟩,((Below.refl _ w).grown HG1.out (Nat.le_refl _) (fun k hk=>by cases hk)).trans (hbel.mono HG1.out.size)⟩
  have hidx:∀ g,ar=some ⟨g,0,none⟩→g<w2.heap.size∧g≠w.heap.size:=fun g e=>by
    subst e
    have:=hbase g rfl
    exact ⟨hgl g rfl,by omega⟩
  have HIDX:=Lib.hid hidx
  have hpw2:p<w2.heap.size:=Nat.lt_of_lt_of_le hpl1 hbel.size
  have hpne:p≠w.heap.size:=by omega
  have hbne:b≠w.heap.size:=by omega
  have hsize2:w.heap.size≤w2.heap.size:=hown2.2.size
  have HD2:=Lib.hid d2
  have HOWN:=Lib.hid hown2
  clear hrow hbel hnd hmem hsort hgl hlie d1 d2 ho2 hin hown2 hbase HO1 hidx hw1
  go_wp2
  go_loopw [3,19] (fun v i wr=>zXP f zs w w2 wr v i) (fun _ i _=>zs.length - (intOf i).toNat)
  case atStart=>exact ⟨0,_,_,Nat.zero_le _,by go_num,rfl,HOWN.out,(fun q hq=>by cases hq; exact .inl rfl),Fr.refl _ _⟩
  case round =>
    obtain ⟨k,ao,co,hk,rfl,rfl,hown,hob,hfr⟩:=hrel
    by_cases hlt:k<zs.length
    · rcases HL.out with h0 | ⟨g,rfl,hcell⟩
      · rw [h0] at hlt; simp at hlt
      obtain ⟨hg1,hg2⟩:=HIDX.out g rfl
      have c0:wr.cell? ⟨g,k,none⟩=some (.int .i64 zs[k]):=hfr.cell (hcell k hlt) hg2
      have dr:wr.cell? ⟨p,0,none⟩=some (.map (some b)):=hfr.cell HD2.out hpne
      have hor:wr.ownsMap Tryz.prog 3 cntR b _ D:=HO2.out.kept (row:=some w.heap.size) ⟨hfr.os,hfr.tape,hfr.output,hfr.size,fun q hq hne=>hfr.block q hq (fun e=>hne (by rw [e]))⟩ (by simpa using hbne)
      have hr:=HIN.out zs[k] (List.getElem_mem hlt)
      have hlook:=zGe hor HM.out zs[k] (by omega) (by omega)
      have hst:fb (zAh f (zs.take (k+1)))=fb (zAh f (zs.take k))++[(zs[k],nf (f zs[k]))]:=by
        rw [List.take_succ_eq_append_getElem hlt]; unfold zAh; rw [List.map_append,zSo]; rfl
      have HST:=Lib.hid hst
      obtain ⟨y,hy⟩:∃ y,y=nf (f zs[k]):=⟨_,rfl⟩
      obtain ⟨x,hx⟩:∃ x,x=zs[k]:=⟨_,rfl⟩
      rw [← hx] at HST
      have HST':Hid (fb (zAh f (zs.take (k+1)))=fb (zAh f (zs.take k))++[(x,y)]):=by rw [hy,hx]; exact hst
      rw [← hy] at hlook
      rw [← hx] at hlook c0
      have ho1:=hown.1.1
      have hlk:(fb (zAh f (zs.take k))).length=k:=by rw [zBi,zBG,List.length_take]; omega
      rw [hlk] at ho1
      have HOW:=Lib.hid hown
      have HOB:=Lib.hid hob
      have HFR:=Lib.hid hfr
      have HLK:=Lib.hid hlk
      clear hy hx hst HST hcell hr hown hob hfr hlk hor
      go_wp2_with (at_builtin; refine zEz wr wr.heap.size rfl x y rfl _ _ 187 189 rfl (.agg #[.int .i64 0,.float .f64 0]) 16 Tryz.underlying187 Tryz.infoStB rfl (.slice ao k co) k (fb (zAh f (zs.take k))) rfl ho1 rfl (by omega) (by decide) ?_; intro ao1 cp1 w3 hown' hgrow hblk)
      have hstp:=HOW.out.step (o:=.cells #[.int .i64 x,.float .f64 y] 189) (by rw [HLK.out]; exact hown') hgrow hblk
      have HSTP:=Lib.hid hstp
      have HGR:=Lib.hid hgrow
      have HBK:=Lib.hid hblk
      clear hstp hown' hgrow hblk ho1 c0 dr hlook
      go_wp2
      go_roundw
      case rel =>
        refine ⟨k+1,ao1,cp1,by omega,by go_num,rfl,?_,?_,?_⟩
        · rw [HST'.out]; exact HSTP.out
        · intro q hq
          rcases HBK.out with h | h
          · exact HOB.out q (by rw [← h]; exact hq)
          · have h2:some q=some (wr.heap.size+1):=by rw [← hq]; exact h
            have:=Option.some.inj h2
            have:=HFR.out.size
            right; omega
        · refine (HFR.out.alloc _).grown HGR.out (fun q hq hlt=>?_)
          rcases HOB.out q hq with h | h
          · exact h
          · omega
      case measure=>simp [intOf]; omega
    · obtain rfl:k=zs.length:=by omega
      clear hlt
      have ho1:=hown.1.1
      have hlk:(fb (zAh f (zs.take zs.length))).length=zs.length:=by rw [zBi,zBG,List.length_take]; omega
      rw [hlk,List.take_length] at ho1
      have HSF:=zRV f zs ao co wr ho1 HIN.out HSRT.out (by omega)
      have hbig:=hown.2
      have hob2:=hown.1.2
      have HOW:=Lib.hid hown
      clear hown hob hfr ho1 hlk
      go_wp2_with (go_at_call 212; (with_reducible refine HSF.mono ?_); rintro e w7 ⟨rfl,hb7⟩)
      go_ret
      have h2:=HOW.out.later hb7
      rw [List.take_length] at h2
      have hl2:(fb (zAh f zs)).length=zs.length:=by rw [zBi,zBG]
      exact ⟨zs,HND.out,HMEM.out,HSRT.out,ao,co,by rw [hl2]; rfl,by rw [hl2]; exact h2⟩
end Go.Proofs.YtllaekopaglolaaGreat
end
/-
  The sparse store: Bins,MinIndex,MaxIndex,KeyAtRank.
-/
section
namespace Go.Proofs.YtllaekopaglolaaGreat
open Go.RowKit Go.Maps
theorem zNY {l m:Bins} (ha:Asc l) (hp:Pos l) (hr:InR l) (ha2:Asc m) (hp2:Pos m) (h:cntB l=cntB m):l=m:=by
  rw [← zVO ha hp (-10000) 10000 (fun i hi=>zBy hr i (.inl hi)) (fun i hi=>zBy hr i (.inr hi)),h]
  exact zVO ha2 hp2 (-10000) 10000 (fun i hi=>by rw [← h]; exact zBy hr i (.inl hi)) (fun i hi=>by rw [← h]; exact zBy hr i (.inr hi))
theorem zSf {t:TypeId} {w w1:World} {ar:Option Addr} {cr:Nat} {ps:List (Int × Nat)} (h:Own2 t w w1 (.slice ar ps.length cr) ps):Lie2 w1 ar ps:=(zJi h.1.1).2.2.2
end Go.Proofs.YtllaekopaglolaaGreat
end
/-
  The sparse store: KeyAtRank.
-/
section
namespace Go.Proofs.YtllaekopaglolaaGreat
open Go.RowKit Go.Maps
def zWV (r:Nat) (l:Bins) (w wr:World) (v i:Value):Prop :=
  ∃ k,k≤l.length∧i = .int .i64 (k:Int)∧v = .float .f64 (nf (tot (l.take k)))∧Below w.heap.size w wr ∧
    Hid (k<l.length→keyF r 0 l=keyF r (tot (l.take k)) (l.drop k))∧Hid (k=l.length→fgt2 (nf (tot (l.take k))) r=false)
set_option maxRecDepth 100000 in
set_option maxHeartbeats 400000 in
theorem zOH (f:Int→Nat) (p b k r:Nat) (w:World) (h:zDY f p b k w) (hk:k≤1000000) (hz:∀ i,i < -10000∨10000<i→f i=0) (hs:tot2 f<1000000000)
   (hr1:fgt2 (nf 0) r=false) (hr2:fgt2 (nf (tot2 f)) r=true) :
    Calls Tryz.prog 202 #[.pointer (some ⟨p,0,none⟩),.float .f64 r] w fun e w'=>(∃ K,e = .returned (.int .i64 K)∧zB5 f r K)∧Below w.heap.size w w':=by
  have HOR:=zG7 f p b k w h hk hz hs
  have HZ:=Lib.hid hz
  have HS:=Lib.hid hs
  have HR1:=Lib.hid hr1
  have HR2:=Lib.hid hr2
  clear h hz hs hr1 hr2
  go_enter Tryz.func202,Tryz.ntmps202
  go_wp2_with fail
  refine HOR.mono ?_
  clear HOR
  rintro e w0 ⟨zs,hnd,hmem,hsort,ar0,cr0,rfl,hown0⟩
  have htot:tot (zAh f zs)=tot2 f:=by rw [← zAy (zBQ hmem HZ.out),zB3 hnd hmem]
  obtain ⟨l,hl⟩:∃ l,l=zAh f zs:=⟨_,rfl⟩
  have hkey:Hid (zB5 f r (keyF r 0 l)):=by
    have hne:l≠[]:=by
      intro e
      have h1:tot2 f=0:=by rw [← htot,← hl,e]; rfl
      have h2:=HR2.out
      rw [h1,HR1.out] at h2; cases h2
    have h1:=zSZ (l:=l) (by rw [hl]; exact zF1 hnd hsort) (by rw [hl]; exact zBQ hmem HZ.out) r HR1.out (by rw [hl,htot]; exact HR2.out) hne
    rw [show cntB l=f from by rw [hl]; exact zB3 hnd hmem] at h1
    exact h1
  rw [← hl] at hown0 htot
  rw [← hl]
  have hlen:l.length<1000000000:=by
    have h1:=zFn (zCn hmem)
    rw [← hl,htot] at h1
    have:=HS.out; omega
  have hLie:=zSf hown0
  have HL:=Lib.hid hLie
  have HB0:=Lib.hid hown0.2
  have HT:=Lib.hid htot
  have HFL:Hid ((fb l).length=l.length):=zBi l
  clear hnd hmem hsort hown0 hl htot hLie
  rw [zBi]
  go_wp2
  go_loopw [6,15] (fun v i wr=>zWV r l w0 wr v i) (fun _ i _=>l.length - (intOf i).toNat)
  case atStart =>
    refine ⟨0,by omega,rfl,by rw [List.take_zero,tot,zAp],Below.refl _ _,fun _=>rfl,fun h=>?_⟩
    rw [List.take_zero]; exact HR1.out
  case round =>
    obtain ⟨k,hk,rfl,rfl,hb,HK,HE⟩:=hrel
    by_cases hlt:k<l.length
    · rcases HL.out.later hb with h0 | ⟨g,off,rfl,hcell⟩
      · have:=congrArg List.length h0; rw [zBi,List.length_nil] at this; omega
      obtain ⟨c0,c1⟩:=hcell k (by rw [zBi]; exact hlt)
      rw [zSn] at c0 c1
      dsimp only at c0 c1
      have hadd:=fun w:World=>run_float_arith (P:=Tryz.prog) w .add 29 .f64 _ _ _ (zAz (tot (l.take k)) l[k].2 (by have:=zGa l k hlt; have:=zNj l (k+1); have:=HT.out; have:=HS.out; omega))
      have hd:keyF r (tot (l.take k)) (l.drop k)=if fgt2 (nf (tot (l.take (k+1)))) r||(l.drop (k+1)).isEmpty then l[k].1 else keyF r (tot (l.take (k+1))) (l.drop (k+1)):=by
        rw [List.drop_eq_getElem_cons hlt,keyF,zGa l k hlt]
      have HD:=Lib.hid hd
      clear hd
      rw [← zGa l k hlt] at hadd
      obtain ⟨b,hbb⟩:∃ b,b=nf l[k].2:=⟨_,rfl⟩
      obtain ⟨x,hx⟩:∃ x,x=l[k].1:=⟨_,rfl⟩
      rw [← hbb] at c1 hadd
      rw [← hx] at c0
      have HX:=Lib.hid hx
      have HB:=Lib.hid hb
      have hz:=hb.size
      obtain ⟨y,hy⟩:∃ y,y=nf (tot (l.take (k+1))):=⟨_,rfl⟩
      rw [← hy] at hadd
      have HY:=Lib.hid hy
      clear hbb hx hb hcell hy
      cases hf:(FloatKind.f64.format.order y r == some .gt)
      · have hf':Hid (fgt2 y r=false):=hf
        have hn1:Hid (k+1<l.length→keyF r 0 l=keyF r (tot (l.take (k+1))) (l.drop (k+1))):=fun h=>by
          rw [HK.out hlt,HD.out,← HY.out,hf'.out,if_neg (by simp; omega)]
        have hn2:Hid (k+1=l.length→fgt2 (nf (tot (l.take (k+1)))) r=false):=fun _=>by rw [← HY.out]; exact hf'.out
        clear HK HE HD
        go_wp2
        go_roundw
        case rel=>exact ⟨k+1,by omega,by go_num,by rw [HY.out],HB.out.alloc hz _,hn1,hn2⟩
        case measure=>simp [intOf]; omega
      · have hres:Hid (x=keyF r 0 l):=by
          have hf':fgt2 y r=true:=hf
          show x=keyF r 0 l
          rw [HK.out hlt,HD.out,← HY.out,hf',HX.out]; rfl
        clear HK HE HD
        go_wp2
        go_ret
        exact ⟨⟨_,rfl,by rw [hres.out]; exact hkey.out⟩,HB0.out.trans ((HB.out.alloc hz _).mono HB0.out.size)⟩
    · exfalso
      obtain rfl:k=l.length:=by omega
      have h1:=HE.out rfl
      rw [List.take_length,HT.out,HR2.out] at h1
      cases h1
end Go.Proofs.YtllaekopaglolaaGreat
end
/-
  The kinds of stores: their constructors,their methods.
-/
section
namespace Go.Proofs.YtllaekopaglolaaGreat
open Go.RowKit
set_option maxRecDepth 100000 in
theorem zJa (w:World):Calls Tryz.prog 54 #[] w fun e w'=>∃ p,e = .returned (.pointer (some ⟨p,0,none⟩))∧zKI p [] 124 w'∧w.heap.size≤p∧Fr (fun _=>False) w w':=by
  go_enter Tryz.func54,Tryz.ntmps54
  go_wp2
  go_ret
  exact ⟨w.heap.size,rfl,heap_alloc_new w _,Nat.le_refl _,(Fr.refl _ w).alloc _⟩
end Go.Proofs.YtllaekopaglolaaGreat
end
/-
  What a store of a kind is to do: for all kinds alike. What is kept,by counts.
-/
section
namespace Go.Proofs.YtllaekopaglolaaGreat
open Go.RowKit
theorem zCz {kind most:Int} (h3:kind≠3) (h4:kind≠4) (xs:Bins):cntB (zBz kind most xs)=cntB xs:=by
  unfold zBz; rw [if_neg h3,if_neg h4,zNU]
structure zAD (kind:Int) where
  T:TypeId
  fAdd:FuncId
  fKey:FuncId
  St:Int→Bins→(Nat→Prop)→Nat→World→Prop
  mAdd:∀ p w,(method 339 T (.pointer (some ⟨p,0,none⟩)) "AddWithCount").run Tryz.prog w = .ok (fAdd,.pointer (some ⟨p,0,none⟩)) w
  mKey:∀ p w,(method 339 T (.pointer (some ⟨p,0,none⟩)) "KeyAtRank").run Tryz.prog w = .ok (fKey,.pointer (some ⟨p,0,none⟩)) w
  eAdd:∀ args w,(callFunc fAdd args).run Tryz.prog w = .ok (.enter fAdd args) w
  eKey:∀ args w,(callFunc fKey args).run Tryz.prog w = .ok (.enter fKey args) w
  new:∀ most w,zBg kind most=true→Calls Tryz.prog 35 #[.int .i64 kind,.int .i64 most] w fun e w'=>∃ p S,e = .returned (.iface T (.pointer (some ⟨p,0,none⟩)))∧St most [] S p w'∧(∀ k,S k→w.heap.size≤k)∧Fr (fun _=>False) w w'
  add:∀ most xs S p i c w,zBg kind most=true→St most xs S p w→InR xs→Pos xs→tot xs+c<1000000000→xs.length<1000 → -10000≤i→i≤10000→0<c →
    Calls Tryz.prog fAdd #[.pointer (some ⟨p,0,none⟩),.int .i64 i,.float .f64 (nf c)] w fun e w'=>e = .returned (.tuple #[])∧∃ S',St most (xs++[(i,c)]) S' p w'∧Fr S w w'∧∀ k,S' k→S k∨w.heap.size≤k
  key:∀ most xs S p r w,zBg kind most=true→St most xs S p w→InR xs→Pos xs→tot xs<1000000000→xs.length≤60→(FloatKind.f64.format.order r 0 == some .lt)=false→fgt2 (nf 0) r=false→fgt2 (nf (tot xs)) r=true →
    Calls Tryz.prog fKey #[.pointer (some ⟨p,0,none⟩),.float .f64 r] w fun e w'=>(∃ K,e = .returned (.int .i64 K)∧zB5 (cntB (zBz kind most xs)) r K)∧∃ S',St most xs S' p w'∧Fr S w w'∧∀ k,S' k→S k∨w.heap.size≤k
  fr:∀ most xs S p S2 w w',St most xs S p w→Fr S2 w w'→(∀ k,S k→¬ S2 k)→St most xs S p w'
  lt:∀ most xs S p w,St most xs S p w→∀ k,S k→k<w.heap.size
end Go.Proofs.YtllaekopaglolaaGreat
end
/-
  The dense store,as one of its kind.
-/
section
namespace Go.Proofs.YtllaekopaglolaaGreat
open Go.RowKit
theorem zWv (p:Nat) (w:World):(method 339 93 (.pointer (some ⟨p,0,none⟩)) "AddWithCount").run Tryz.prog w = .ok (168,.pointer (some ⟨p,0,none⟩)) w:=by kernel_rfl
theorem zWs (p:Nat) (w:World):(method 339 93 (.pointer (some ⟨p,0,none⟩)) "KeyAtRank").run Tryz.prog w = .ok (176,.pointer (some ⟨p,0,none⟩)) w:=by kernel_rfl
def StD (_most:Int) (xs:Bins) (S:Nat→Prop) (p:Nat) (w:World):Prop :=
  (xs=[]∧zKI p [] 124 w∧∀ k,S k↔k=p) ∨
  ∃ mn mx g L cp,zJE (cntB xs) (tot xs) mn mx p g L cp [] 124 w∧0<cntB xs mn∧0<cntB xs mx∧∀ k,S k↔k=p∨k=g
theorem zC6 (xs:Bins) (i:Int) (c:Nat):tot (xs++[(i,c)])=tot xs+c:=by rw [zBB]; rfl
theorem StD.fr {most:Int} {xs:Bins} {S S2:Nat→Prop} {p:Nat} {w w':World} (h:StD most xs S p w) (hf:Fr S2 w w') (hn:∀ k,S k→¬ S2 k):StD most xs S p w':=by
  rcases h with ⟨h1,h2,h3⟩ | ⟨mn,mx,g,L,cp,h1,h2,h3,h4⟩
  · exact .inl ⟨h1,DS.fr h2 hf (hn p ((h3 p).2 rfl)),h3⟩
  · exact .inr ⟨mn,mx,g,L,cp,{ h1 with ok:=h1.ok.fr hf (hn p ((h4 p).2 (.inl rfl))) (hn g ((h4 g).2 (.inr rfl))) },h2,h3,h4⟩
theorem StD.add {most:Int} {xs:Bins} {S:Nat→Prop} {p:Nat} {i:Int} {c:Nat} {w:World} (h:StD most xs S p w) (hr:InR xs) (ht:tot xs+c<1000000000) (b1:-10000≤i) (b2:i≤10000) (hc:0<c) :
    Calls Tryz.prog 168 #[.pointer (some ⟨p,0,none⟩),.int .i64 i,.float .f64 (nf c)] w fun e w'=>e = .returned (.tuple #[])∧∃ S',StD most (xs++[(i,c)]) S' p w'∧Fr S w w'∧∀ k,S' k→S k∨w.heap.size≤k:=by
  rcases h with ⟨rfl,h2,h3⟩ | ⟨mn,mx,g,L,cp,h1,h2,h3,h4⟩
  · have H:=zOi (fun _=>0) 0 c i i i p none [] 124 w hc (by omega) (Nat.le_refl _) (Int.le_refl _) (Int.le_refl _) (by rw [zAp]; exact zSF i p [] 124 w h2 b1 b2)
    refine H.mono ?_
    rintro e w' ⟨g',L,cp,rfl,hok,hpg,hL,hf,hg⟩
    refine ⟨rfl,fun k=>k=p∨k=g',.inr ⟨i,i,g',L,cp,⟨?_,hpg,fun j hj=>?_,Int.le_refl _,by rw [zC6]; simp [tot]; exact hc,by rw [zC6]; simp [tot]; omega,b1,b2,hL⟩,?_,?_,fun k=>Iff.rfl⟩,hf.mono (fun k _ hk=>?_),fun k hk=>?_⟩
    · rw [zC6]
      exact hok
    · show (if j=i then 0+c else 0)=0
      rw [if_neg (by omega)]
    · show 0<if i=i then 0+c else 0
      rw [if_pos rfl]; omega
    · show 0<if i=i then 0+c else 0
      rw [if_pos rfl]; omega
    · rcases hk with hk | hk
      · exact (h3 k).2 hk
      · cases hk
    · rcases hk with hk | hk
      · exact .inl ((h3 k).2 hk)
      · rcases hg with hg | hg
        · cases hg
        · right; omega
  · have hti:cntB xs i≤tot xs:=by rw [← zAy hr]; exact zCk _ _ b1 b2
    have H:=zOi (cntB xs) (tot xs) c i (min i mn) (max i mx) p (some g) [] 124 w hc (by omega) hti (by omega) (by omega) (zSE (cntB xs) (tot xs) i mn mx p g L cp [] 124 w h1 b1 b2)
    refine H.mono ?_
    rintro e w' ⟨g',L',cp',rfl,hok,hpg,hL,hf,hg⟩
    have hle:=h1.le
    have hcs:=zFd xs (i,c)
    refine ⟨rfl,fun k=>k=p∨k=g',.inr ⟨min i mn,max i mx,g',L',cp',⟨?_,hpg,fun j hj=>?_,by omega,by rw [zC6]; omega,by rw [zC6]; omega,by have:=h1.lo; omega,by have:=h1.hi; omega,hL⟩,?_,?_,fun k=>Iff.rfl⟩,hf.mono (fun k _ hk=>?_),fun k hk=>?_⟩
    · rw [zC6,hcs]
      exact hok
    · rw [hcs]
      show (if j=i then cntB xs j+c else cntB xs j)=0
      rw [if_neg (by omega),h1.zero j (by omega)]
    · rw [hcs]
      show 0<if min i mn=i then cntB xs (min i mn)+c else cntB xs (min i mn)
      split
      · omega
      · rw [show min i mn=mn from by omega]; exact h2
    · rw [hcs]
      show 0<if max i mx=i then cntB xs (max i mx)+c else cntB xs (max i mx)
      split
      · omega
      · rw [show max i mx=mx from by omega]; exact h3
    · rcases hk with hk | hk
      · exact (h4 k).2 (.inl hk)
      · exact (h4 k).2 (.inr (Option.some.inj hk).symm)
    · rcases hk with hk | hk
      · exact .inl ((h4 k).2 (.inl hk))
      · rcases hg with hg | hg
        · exact .inl ((h4 k).2 (.inr (by rw [hk]; exact (Option.some.inj hg).symm)))
        · right; omega
set_option maxRecDepth 100000 in
theorem zQv (most:Int) (w:World):Calls Tryz.prog 35 #[.int .i64 0,.int .i64 most] w fun e w'=>∃ p S,e = .returned (.iface 93 (.pointer (some ⟨p,0,none⟩)))∧StD most [] S p w'∧(∀ k,S k→w.heap.size≤k)∧Fr (fun _=>False) w w':=by
  go_enter Tryz.func35,Tryz.ntmps35
  go_wp2_with (go_at_call 54; (with_reducible refine (zJa _).mono ?_); rintro e w' ⟨p,rfl,h1,h2,h3⟩; have H1:=Lib.hid h1; have H2:=Lib.hid h2; have H3:=Lib.hid h3; clear h1 h2 h3)
  go_ret
  exact ⟨p,fun k=>k=p,rfl,.inl ⟨rfl,H1.out,fun k=>Iff.rfl⟩,fun k hk=>by rw [hk]; exact H2.out,H3.out⟩
def zGV:zAD 0 where
  T:=93
  fAdd:=168
  fKey:=176
  St:=StD
  mAdd:=zWv
  mKey:=zWs
  eAdd:=enters_of Tryz.func168 (by kernel_rfl) rfl
  eKey:=enters_of Tryz.func176 (by kernel_rfl) rfl
  new:=fun most w _=>zQv most w
  add:=fun most xs S p i c w _ h hr _ ht _ b1 b2 hc=>h.add hr ht b1 b2 hc
  key:=fun most xs S p r w _ h hr hp ht _ hr0 hr1 hr2=>by
    rcases h with ⟨rfl,_,_⟩ | ⟨mn,mx,g,L,cp,h1,h2,h3,h4⟩
    · rw [show tot []=0 from rfl] at hr2; rw [hr1] at hr2; cases hr2
    · have H:=zOK (cntB xs) (tot xs) r mn mx p g L cp [] 124 w h1.ok h1.zero (zAy hr).symm h1.lt h1.lo h1.hi (by have:=h1.len; omega) hr0 hr1 hr2
      refine H.mono ?_
      rintro e w' ⟨⟨K,rfl,hk⟩,rfl⟩
      exact ⟨⟨K,rfl,by rw [zCz (by decide) (by decide)]; exact hk⟩,S,.inr ⟨mn,mx,g,L,cp,h1,h2,h3,h4⟩,Fr.refl _ _,fun k hk=>.inl hk⟩
  fr:=fun _ _ _ _ _ _ _ h hf hn=>h.fr hf hn
  lt:=fun most xs S p w h k hk=>by
    rcases h with ⟨_,h2,h3⟩ | ⟨mn,mx,g,L,cp,h1,_,_,h4⟩
    · rw [(h3 k).1 hk]; exact DS.lt h2
    · obtain ⟨off,hd,hrw,_⟩:=h1.ok
      rcases (h4 k).1 hk with e | e
      · rw [e]; exact hd.lt
      · rw [e]; exact hrw.lt
end Go.Proofs.YtllaekopaglolaaGreat
end
