/-
  The store with pages in memory; append of empty slices.
-/
import Derived.Test.YtllaekopaglolaaGreatGAM
import Derived.Test.YtllaekopaglolaaGreatGAS
import Derived.Test.YtllaekopaglolaaGreatGAQ
import Derived.Deep.RegionLaw
import Derived.Deep.QuietTactic
import Derived.BigQuiet
section
namespace Go.Proofs.YtllaekopaglolaaGreat
open Go.RowKit
variable {tg:Int}
section
variable {P:Program} (w:World)
theorem run_append_zs_room (t tI ty e:TypeId) (i:TypeInfo) (z:Value) (ht:P.underlying t=some (.slice e)) (hI:P.underlying tI=some (.int .i64)) (hi:P.info? e=some i) (hz:i.zero=some z) (hs:i.size=1) (hb:i.bytes≤32) (hzc:z.cells = #[z]) (hz1:z.oneCell'=true)
    (g sLen sCap n:Nat) (hn0:0<n) (hn:n<10000000) (cur:Array Value) (hg:w.heap[g]?=some (.cells cur e (0,0))) (hroom:sLen+n≤sCap) (hfit:sLen+n≤cur.size) :
    (Builtin.append_ #[t,tI] ty #[.slice (some ⟨g,0,none⟩) sLen sCap,.int .i64 n]).run P w =
      .ok (.slice (some ⟨g,0,none⟩) (sLen+n) sCap) (w.setRow g (cur.toList.take sLen++List.replicate n z++cur.toList.drop (sLen+n)).toArray):=by
  have hst:=run_storeCells_at P g sLen e (List.replicate n z) 0 cur w hg (by simp; omega) (by intro u hu; rw [List.eq_of_mem_replicate hu]; exact hz1)
  simp only [Nat.add_zero,List.length_replicate] at hst
  have hw:IntKind.i64.wrap (n:Int)=n:=by rw [IntKind.wrap_i64]; omega
  have h1:¬ ((n:Int)<0):=by omega
  have h2:¬ (281474976710656<(n:Int)*(i.bytes:Int)):=by
    have:(n:Int)*(i.bytes:Int)≤10000000*32:=Int.mul_le_mul (by omega) (by omega) (by omega) (by omega)
    omega
  have h3:¬ n=0:=by omega
  simp [Builtin.append_,run_underlying ht,run_underlying hI,sizeOf,typeInfo,zeroValue,hi,hz,hs,asInt,asIntOf,hw,h1,h2,h3,hroom,hzc,zeroCells_one,Addr.add_lit,hst]
theorem run_append_zs_grow (t tI ty e:TypeId) (i:TypeInfo) (z:Value) (ht:P.underlying t=some (.slice e)) (hI:P.underlying tI=some (.int .i64)) (hi:P.info? e=some i) (hz:i.zero=some z) (hs:i.size=1) (hb:i.bytes≤32) (hzc:z.cells = #[z])
    (ao:Option Addr) (sLen sCap n:Nat) (olds:List Value) (hlo:olds.length=sLen) (holds:(Builtin.firstCells 1 sLen (.slice ao sLen sCap)).run P w.drew = .ok olds.toArray w.drew) (hn0:0<n) (hn:n<10000000) (hsl:sLen<10000000)
    (hg:sCap<sLen+n) :
    (Builtin.append_ #[t,tI] ty #[.slice ao sLen sCap,.int .i64 n]).run P w =
      .ok (.slice (some ⟨w.heap.size,0,none⟩) (sLen+n) (grownCap w (sLen+n) sCap e))
        (w.drew.alloc (.cells (olds.toArray++(List.replicate n z).toArray++Builtin.zeroCells #[z] (grownCap w (sLen+n) sCap e - (sLen+n))) e)):=by
  have hn':¬ (sLen+n≤sCap):=by omega
  have hw:IntKind.i64.wrap (n:Int)=n:=by rw [IntKind.wrap_i64]; omega
  have h1:¬ ((n:Int)<0):=by omega
  have h2:¬ (281474976710656<(n:Int)*(i.bytes:Int)):=by
    have:(n:Int)*(i.bytes:Int)≤10000000*32:=Int.mul_le_mul (by omega) (by omega) (by omega) (by omega)
    omega
  have h3:¬ n=0:=by omega
  have h63':¬ (9223372036854775807<((sLen:Int)+(n:Int))):=by omega
  have h48':¬ (281474976710656<Builtin.nextslicecap (sLen+n) sCap*i.bytes):=by
    have:=growslice_fits (need:=sLen+n) (old:=sCap) (bytes:=i.bytes) (by omega) (by
      have:(sLen+n)*i.bytes≤20000000*32:=Nat.mul_le_mul (by omega) hb
      omega)
    omega
  have hz2:=zeroCells_one z n
  simp [Builtin.append_,run_underlying ht,run_underlying hI,sizeOf,typeInfo,zeroValue,hi,hz,hs,asInt,asIntOf,hw,h1,h2,h3,hn',h63',h48',hzc,hz2,Question.forced,holds,newRow,grownCap]
end
def GrewZ (e:TypeId) (w:World) (v:Value) (L n:Nat) (xs:List Value) (z:Value) (v':Value) (w':World):Prop :=
  ∃ g' cp',v' = .slice (some ⟨g',0,none⟩) (L+n) cp'∧w'.ownsRow 0 e 1 v' (L+n) (xs++List.replicate n z)∧w.grownBy w' v.ownBlock∧(v.ownBlock=some g'∨g'=w.heap.size)
theorem run_append_zs {P:Program} (w:World) (t tI ty e:TypeId) (z:Value) (by0:Nat) (ht:P.underlying t=some (.slice e)) (hI:P.underlying tI=some (.int .i64))
    (hinfo:(P.info? e).map (fun i=>(i.zero,i.size,i.bytes))=some (some z,1,by0)) (hby:by0≤32) (hzc:z.cells = #[z]) (hz1:z.oneCell'=true)
    (v:Value) (L n:Nat) (xs:List Value) (h:w.ownsRow 0 e 1 v L xs) (hn0:0<n) (hn:n<10000000) (hL:L<10000000) :
    ∃ v' w',(Builtin.append_ #[t,tI] ty #[v,.int .i64 n]).run P w = .ok v' w'∧GrewZ e w v L n xs z v' w':=by
  obtain ⟨i,hi,hz,hs,hb⟩:=info_parts hinfo
  have hxl:xs.length=L:=by have:=h.1; omega
  have hlen:(xs++List.replicate n z).length=L+n:=by simp [hxl]
  have grown:∀ (old:Nat),old<L+n→∀ (row':Option Nat),
      (w.drew.alloc (.cells (xs.toArray++(List.replicate n z).toArray++Builtin.zeroCells #[z] (grownCap w (L+n) old e - (L+n))) e)).ownsRow 0 e 1 (.slice (some ⟨w.heap.size,0,none⟩) (L+n) (grownCap w (L+n) old e)) (L+n) (xs++List.replicate n z) ∧
      w.grownBy (w.drew.alloc (.cells (xs.toArray++(List.replicate n z).toArray++Builtin.zeroCells #[z] (grownCap w (L+n) old e - (L+n))) e)) row':=by
    intro old ho row'
    have hge:=grownCap_ge w (L+n) old e
    have hcm:grownCap w (L+n) old e≤maxLen:=grownCap_le_maxLen w (L+n) old e (by unfold maxLen; omega)
    refine ⟨⟨by rw [hlen]; omega,.inr ⟨w.heap.size,_,_,rfl,Nat.zero_le _,heap_alloc_new w.drew _,hge,hcm,?_,?_⟩⟩,⟨rfl,rfl,rfl,by simp,fun k hk _=>Below.heap_alloc w.drew _ k hk⟩⟩
    · simp only [Array.size_append,List.size_toArray,size_zeroCells,hxl,List.length_replicate]
      simp; omega
    · simp only [Array.toList_append,List.append_assoc]
      rw [← List.append_assoc,Nat.mul_one]
      conv=>lhs; arg 1; rw [← hlen]
      exact List.take_left
  rcases h.2 with ⟨rfl,rfl⟩ | ⟨g,cp,cur,rfl,_,hg,h1,h2,h3,h4⟩
  · have hx0:xs=[]:=List.eq_nil_of_length_eq_zero hxl
    subst hx0
    have hr:=run_append_zs_grow (P:=P) w t tI ty e i z ht hI hi hz hs (by omega) hzc none 0 0 n [] rfl (by simp [Builtin.firstCells]) hn0 hn (by omega) (by omega)
    have hgr:=grown 0 (by omega) (Value.ownBlock (.slice none 0 0))
    exact ⟨_,_,hr,w.heap.size,_,rfl,hgr.1,hgr.2,.inr rfl⟩
  · rw [Nat.mul_one] at h4 h3
    by_cases hroom:L+n≤cp
    · have hrun:=run_append_zs_room (P:=P) w t tI ty e i z ht hI hi hz hs (by omega) hzc hz1 g L cp n hn0 hn cur hg hroom (by omega)
      refine ⟨_,_,hrun,g,cp,rfl,⟨by rw [hlen]; omega,.inr ⟨g,cp,_,rfl,Nat.zero_le _,setRow_heap w g cur _ _ _ hg,hroom,h2,?_,?_⟩⟩,⟨rfl,rfl,rfl,by simp [World.setRow],fun k _ hk=>setRow_other w g k _ (fun e=>hk (by simp [Value.ownBlock,e]))⟩,.inl rfl⟩
      · simp only [List.size_toArray,List.length_append,List.length_take,List.length_drop,Array.length_toList,List.length_replicate]
        omega
      · rw [h4,Nat.mul_one]
        conv=>lhs; arg 1; rw [← hlen]
        exact List.take_left
    · have hfo:=run_firstCells_some (P:=P) w.drew 1 L ⟨g,0,none⟩ L cp xs (by omega) (World.ownsRow.cells h (g:=g) rfl)
      have hrun:=run_append_zs_grow (P:=P) w t tI ty e i z ht hI hi hz hs (by omega) hzc (some ⟨g,0,none⟩) L cp n xs hxl hfo hn0 hn hL (by omega)
      have hgr:=grown cp (by omega) (Value.ownBlock (.slice (some ⟨g,0,none⟩) L cp))
      exact ⟨_,_,hrun,w.heap.size,_,rfl,hgr.1,hgr.2,.inr rfl⟩
theorem wpList_append_zs {P:Program} (w:World) {ops:Array Oper} {rest:List Oper} {o:Oper} {a:Act} {Q:Exit→Act→World→Prop} (hgd:o.guard=none) (s x:Operand) (t tI e:TypeId) (z:Value) (by0:Nat)
    (ho:o.op = .call { callee:=.builtin .append,args:=#[s,x],argTypes:=#[t,tI] }) (ht:P.underlying t=some (.slice e)) (hI:P.underlying tI=some (.int .i64))
    (hinfo:(P.info? e).map (fun i=>(i.zero,i.size,i.bytes))=some (some z,1,by0)) (hby:by0≤32) (hzc:z.cells = #[z]) (hz1:z.oneCell'=true)
    (v:Value) (L n:Nat) (xs:List Value) (hs:a.eval s=v) (hx:a.eval x = .int .i64 n) (h:w.ownsRow 0 e 1 v L xs) (hn0:0<n) (hn:n<10000000) (hL:L<10000000)
    (hk:∀ v' w',GrewZ e w v L n xs z v' w'→wpList P ops Q rest (a.put o.dst v') w'):wpList P ops Q (o :: rest) a w:=by
  obtain ⟨v',w',hr,h2⟩:=run_append_zs (P:=P) w t tI o.type e z by0 ht hI hinfo hby hzc hz1 v L n xs h hn0 hn hL
  refine wpList_plain hgd fun K hK=>?_
  unfold Oper.wp execOp
  simp only [ho,resolve,invoke,builtin,Sem.run_bind,Sem.run_pure,Result.andThen_ok,List.map_toArray,List.map_cons,List.map_nil,hs,hx,hr]
  exact hK _ _ (hk v' w' h2)
theorem wp_append_zs {P:Program} (w:World) {o:Oper} {a:Act} {K:Act→World→Prop} {Q:Exit→Act→World→Prop} (s x:Operand) (t tI e:TypeId) (z:Value) (by0:Nat)
    (ho:o.op = .call { callee:=.builtin .append,args:=#[s,x],argTypes:=#[t,tI] }) (ht:P.underlying t=some (.slice e)) (hI:P.underlying tI=some (.int .i64))
    (hinfo:(P.info? e).map (fun i=>(i.zero,i.size,i.bytes))=some (some z,1,by0)) (hby:by0≤32) (hzc:z.cells = #[z]) (hz1:z.oneCell'=true)
    (v:Value) (L n:Nat) (xs:List Value) (hs:a.eval s=v) (hx:a.eval x = .int .i64 n) (h:w.ownsRow 0 e 1 v L xs) (hn0:0<n) (hn:n<10000000) (hL:L<10000000)
    (hk:∀ v' w',GrewZ e w v L n xs z v' w'→K (a.put o.dst v') w'):o.wp P a w K Q:=by
  obtain ⟨v',w',hr,h2⟩:=run_append_zs (P:=P) w t tI o.type e z by0 ht hI hinfo hby hzc hz1 v L n xs h hn0 hn hL
  unfold Oper.wp execOp
  simp only [ho,resolve,invoke,builtin,Sem.run_bind,Sem.run_pure,Result.andThen_ok,List.map_toArray,List.map_cons,List.map_nil,hs,hx,hr]
  exact hk v' w' h2
theorem Tryz.infoSF:(Tryz.prog.info? 23).map (fun i=>(i.zero,i.size,i.bytes))=some (some (.slice none 0 0),1,24):=by kernel_rfl
def pgV:Option (Nat × Nat)→Value
  | none=>.slice none 0 0
  | some (b,cp)=>.slice (some ⟨b,0,none⟩) 32 cp
def rowV (a:Nat→Value) (L:Nat):List Value:=(List.range L).map a
theorem rowV_length (a:Nat→Value) (L:Nat):(rowV a L).length=L:=by simp [rowV]
theorem rowV_get (a:Nat→Value) (L j:Nat) (h:j<L):(rowV a L)[j]?=some (a j):=by
  unfold rowV; rw [List.getElem?_map,List.getElem?_range h]; rfl
theorem rowV_ext {a b:Nat→Value} {L:Nat} (h:∀ j,j<L→a j=b j):rowV a L=rowV b L:=List.map_congr_left fun j hj=>h j (List.mem_range.1 hj)
theorem rowV_set (a:Nat→Value) (L j:Nat) (v:Value):(rowV a L).set j v=rowV (fun i=>if i=j then v else a i) L:=by
  apply List.ext_getElem?
  intro i
  rw [List.getElem?_set]
  by_cases hi:i<L
  · rw [rowV_get _ _ _ hi]
    by_cases hij:j=i
    · subst hij; rw [if_pos rfl,if_pos (by rw [rowV_length]; exact hi),rowV_get _ _ _ hi,if_pos rfl]
    · rw [if_neg hij,rowV_get _ _ _ hi,if_neg (fun e=>hij e.symm)]
  · rw [List.getElem?_eq_none (l:=rowV (fun i=>if i=j then v else a i) L) (by rw [rowV_length]; omega)]
    by_cases hij:j=i
    · subst hij; rw [if_pos rfl,if_neg (by rw [rowV_length]; exact hi)]
    · rw [if_neg hij,List.getElem?_eq_none (by rw [rowV_length]; omega)]
theorem rowV_more (a:Nat→Value) (n k:Nat) (z:Value):rowV a n++List.replicate k z=rowV (fun j=>if j<n then a j else z) (n+k):=by
  apply List.ext_getElem?
  intro i
  by_cases h1:i<n
  · rw [List.getElem?_append_left (by rw [rowV_length]; exact h1),rowV_get _ _ _ h1,rowV_get _ _ _ (by omega),if_pos h1]
  · rw [List.getElem?_append_right (by rw [rowV_length]; omega),rowV_length]
    by_cases h2:i<n+k
    · rw [List.getElem?_replicate,if_pos (by omega),rowV_get _ _ _ h2,if_neg h1]
    · rw [List.getElem?_replicate,if_neg (by omega),List.getElem?_eq_none (by rw [rowV_length]; omega)]
def upd (q:Int→Option (Nat × Nat)) (x:Int) (z:Option (Nat × Nat)):Int→Option (Nat × Nat):=fun y=>if y=x then z else q y
def PS (w:World) (p:Nat) (bufv:Value) (tr:Int) (pgs:Value) (mp:Int):Prop :=
  w.heap[p]?=some (.cells #[bufv,.int .i64 tr,pgs,.int .i64 mp,.int .i64 5,.int .i64 31] 131 (0,0))
section
variable {w w':World} {p:Nat} {bufv pgs:Value} {tr mp:Int}
theorem PS.cells (h:PS w p bufv tr pgs mp):w.cell? ⟨p,0,none⟩=some bufv∧w.cell? ⟨p,1,none⟩=some (.int .i64 tr)∧w.cell? ⟨p,2,none⟩=some pgs∧w.cell? ⟨p,3,none⟩=some (.int .i64 mp)∧w.cell? ⟨p,4,none⟩=some (.int .i64 5)∧w.cell? ⟨p,5,none⟩=some (.int .i64 31) :=
  ⟨cell_of_row _ _ 0 _ _ _ h,cell_of_row _ _ 1 _ _ _ h,cell_of_row _ _ 2 _ _ _ h,cell_of_row _ _ 3 _ _ _ h,cell_of_row _ _ 4 _ _ _ h,cell_of_row _ _ 5 _ _ _ h⟩
theorem PS.free (h:PS w p bufv tr pgs mp) (i:Nat):w.frozen? ⟨p,i,none⟩=false:=frozen_of_row w p i _ _ h
theorem PS.lt (h:PS w p bufv tr pgs mp):p<w.heap.size:=lt_of_block h
theorem PS.fr {S:Nat→Prop} (h:PS w p bufv tr pgs mp) (hf:Fr S w w') (hp:¬ S p):PS w' p bufv tr pgs mp:=hf.heap h hp
theorem PS.set0 (h:PS w p bufv tr pgs mp) (v:Value):PS (w.setCell ⟨p,0,none⟩ v) p v tr pgs mp:=(heap_setCell_same w p 0 _ _ v h).trans rfl
theorem PS.set2 (h:PS w p bufv tr pgs mp) (v:Value):PS (w.setCell ⟨p,2,none⟩ v) p bufv tr v mp:=(heap_setCell_same w p 2 _ _ v h).trans rfl
theorem PS.set3 (h:PS w p bufv tr pgs mp) (m:Int):PS (w.setCell ⟨p,3,none⟩ (.int .i64 m)) p bufv tr pgs m:=(heap_setCell_same w p 3 _ _ _ h).trans rfl
theorem PS.other (h:PS w p bufv tr pgs mp) {a:Addr} (ha:a.block≠p) (v:Value):PS (w.setCell a v) p bufv tr pgs mp:=(Below.heap_setCell _ _ _ _ (fun e=>ha e.symm)).trans h
end
structure PagedC (tg:Int) (G:Int→Nat) (bs:List Int) (q:Int→Option (Nat × Nat)) (a:Nat→Value) (mp:Int) (n p:Nat) (bufv pgs:Value) (w:World):Prop where
  fields:PS w p bufv tg pgs mp
  buf:w.ownsRow 0 3 1 bufv bs.length (bs.map (Value.int .i64))
  row:w.ownsRow 0 23 1 pgs n (rowV a n)
  page:∀ x b cp,q x=some (b,cp)→Row w b 32 cp (fun k=>G (32*x+k))
  zero:∀ x,q x=none→∀ k,0≤k→k<32→G (32*x+k)=0
  inj:∀ x y b cp cp',q x=some (b,cp)→q y=some (b,cp')→x=y
structure Paged (tg:Int) (G:Int→Nat) (bs:List Int) (q:Int→Option (Nat × Nat)) (mp:Int) (n p:Nat) (bufv pgs:Value) (w:World):Prop where
  core:PagedC tg G bs q (fun j=>pgV (q (mp+(j:Int)))) mp n p bufv pgs w
  inside:∀ x b cp,q x=some (b,cp)→mp≤x∧x<mp+n ∧ -320≤x∧x≤320
  bd:(n=0∧mp=9223372036854775807∧pgs = .slice none 0 0)∨(0<n ∧ -330≤mp∧mp+n≤330)
def PFoot (q:Int→Option (Nat × Nat)) (p:Nat) (bufv pgs:Value) (k:Nat):Prop:=k=p∨bufv.ownBlock=some k∨pgs.ownBlock=some k∨∃ x cp,q x=some (k,cp)
theorem owns_tag {w:World} {e:TypeId} {v:Value} {n:Nat} {xs:List Value} (h:w.ownsRow 0 e 1 v n xs) {k:Nat} (hk:v.ownBlock=some k):∃ cur,w.heap[k]?=some (.cells cur e (0,0)):=by
  rcases h.2 with ⟨rfl,_⟩ | ⟨g,cap,cur,rfl,_,hg,_⟩
  · simp [Value.ownBlock] at hk
  · cases hk; exact ⟨cur,hg⟩
theorem tag_ne {w:World} {a b:Nat} {c1 c2:Array Value} {t1 t2:TypeId} {f1 f2:Nat × Nat} (h1:w.heap[a]?=some (.cells c1 t1 f1)) (h2:w.heap[b]?=some (.cells c2 t2 f2)) (h:t1≠t2):a≠b:=by
  intro e; subst e
  rw [h1] at h2
  cases h2
  exact h rfl
section
variable {G:Int→Nat} {bs:List Int} {q:Int→Option (Nat × Nat)} {a:Nat→Value} {mp:Int} {n p:Nat} {bufv pgs:Value} {w w':World}
theorem PagedC.drewN (h:PagedC tg G bs q a mp n p bufv pgs w) (k:Nat):PagedC tg G bs q a mp n p bufv pgs (w.drewN k):=⟨h.fields,h.buf,h.row,h.page,h.zero,h.inj⟩
theorem PagedC.drew (h:PagedC tg G bs q a mp n p bufv pgs w):PagedC tg G bs q a mp n p bufv pgs w.drew:=⟨h.fields,h.buf,h.row,h.page,h.zero,h.inj⟩
theorem PagedC.ext {a':Nat→Value} (h:PagedC tg G bs q a mp n p bufv pgs w) (he:∀ j,j<n→a j=a' j):PagedC tg G bs q a' mp n p bufv pgs w:=⟨h.fields,h.buf,by rw [← rowV_ext he]; exact h.row,h.page,h.zero,h.inj⟩
theorem PagedC.grown (h:PagedC tg G bs q a mp n p bufv pgs w) (hg:w.grownBy w' none):PagedC tg G bs q a mp n p bufv pgs w' :=
  ⟨(hg.block p h.fields.lt (by simp)).trans h.fields,h.buf.kept hg (Classical.em _),h.row.kept hg (Classical.em _),
    fun x b cp hq=>World.ownsRow.kept (h.page x b cp hq) hg (.inr (by simp [Value.ownBlock])),h.zero,h.inj⟩
theorem PagedC.setMp (h:PagedC tg G bs q a mp n p bufv pgs w) (m:Int):PagedC tg G bs q a m n p bufv pgs (w.setCell ⟨p,3,none⟩ (.int .i64 m)):=by
  refine ⟨h.fields.set3 m,ownsRow_setCell_other h.buf (fun e=>?_) _,ownsRow_setCell_other h.row (fun e=>?_) _,fun x b cp hx=>?_,h.zero,h.inj⟩
  · obtain ⟨_,hc⟩:=owns_tag h.buf e; exact tag_ne hc h.fields (by decide) rfl
  · obtain ⟨_,hc⟩:=owns_tag h.row e; exact tag_ne hc h.fields (by decide) rfl
  · obtain ⟨_,hc,_⟩:=(h.page x b cp hx).block
    exact (h.page x b cp hx).other (fun e=>tag_ne hc h.fields (by decide) e.symm) _
theorem PagedC.setPage {g c0:Nat} (h:PagedC tg G bs q a mp n p bufv (.slice (some ⟨g,0,none⟩) n c0) w) (j:Nat) (v:Value):PagedC tg G bs q (fun i=>if i=j then v else a i) mp n p bufv (.slice (some ⟨g,0,none⟩) n c0) (w.setCell ⟨g,j,none⟩ v):=by
  obtain ⟨curg,hcg⟩:=owns_tag h.row (k:=g) rfl
  refine ⟨h.fields.other (tag_ne hcg h.fields (by decide)) _,ownsRow_setCell_other h.buf (fun e=>?_) _,by rw [← rowV_set]; exact (h.row.stored j v).1,fun x b cp hx=>?_,h.zero,h.inj⟩
  · obtain ⟨_,hc⟩:=owns_tag h.buf e; exact tag_ne hc hcg (by decide) rfl
  · obtain ⟨_,hc,_⟩:=(h.page x b cp hx).block
    exact (h.page x b cp hx).other (fun e=>tag_ne hc hcg (by decide) e.symm) _
theorem PagedC.after {k:Nat} {v':Value} {w1:World} (h:PagedC tg G bs q a mp n p bufv pgs w) (hg:GrewZ 23 w pgs n k (rowV a n) (.slice none 0 0) v' w1):PS w1 p bufv tg pgs mp:=by
  obtain ⟨g',cp',rfl,hrow,hgr,hb⟩:=hg
  have hpp:pgs.ownBlock≠some p:=fun e=>by obtain ⟨_,hc⟩:=owns_tag h.row e; exact tag_ne hc h.fields (by decide) rfl
  exact (hgr.block p h.fields.lt (fun e=>hpp e.symm)).trans h.fields
theorem PagedC.longer {k:Nat} {v':Value} {w1:World} (h:PagedC tg G bs q a mp n p bufv pgs w) (hg:GrewZ 23 w pgs n k (rowV a n) (.slice none 0 0) v' w1) :
    PagedC tg G bs q (fun j=>if j<n then a j else .slice none 0 0) mp (n+k) p bufv v' (w1.setCell ⟨p,2,none⟩ v'):=by
  obtain ⟨g',cp',rfl,hrow,hgr,hb⟩:=hg
  have hlt:∀ j,j<w.heap.size→pgs.ownBlock≠some j→w1.heap[j]?=w.heap[j]?:=fun j hj hne=>hgr.block j hj (fun e=>hne e.symm)
  have hpp:pgs.ownBlock≠some p:=fun e=>by obtain ⟨_,hc⟩:=owns_tag h.row e; exact tag_ne hc h.fields (by decide) rfl
  have hf1:PS w1 p bufv tg pgs mp:=(hlt p h.fields.lt hpp).trans h.fields
  have hbp:bufv.ownBlock≠some p:=fun e=>by obtain ⟨_,hc⟩:=owns_tag h.buf e; exact tag_ne hc h.fields (by decide) rfl
  obtain ⟨curg,hcg⟩:=owns_tag hrow (k:=g') rfl
  refine ⟨hf1.set2 _,ownsRow_setCell_other (h.buf.kept hgr ?_) hbp _,?_,fun x b cp hx=>?_,h.zero,h.inj⟩
  · cases e:bufv.ownBlock with
    | none=>exact .inl rfl
    | some b =>
      right
      intro e2
      obtain ⟨_,hc⟩:=owns_tag h.buf e
      obtain ⟨_,hc2⟩:=owns_tag h.row e2.symm
      exact tag_ne hc hc2 (by decide) rfl
  · have h2:(w1.setCell ⟨p,2,none⟩ (.slice (some ⟨g',0,none⟩) (n+k) cp')).ownsRow 0 23 1 (.slice (some ⟨g',0,none⟩) (n+k) cp') (n+k) (rowV a n++List.replicate k (.slice none 0 0)):=ownsRow_setCell_other hrow (fun e=>by cases e; exact tag_ne hcg hf1 (by decide) rfl) _
    rw [rowV_more] at h2
    exact h2
  · obtain ⟨_,hc,_⟩:=(h.page x b cp hx).block
    have h2:Row w1 b 32 cp (fun k=>G (32*x+k)):=World.ownsRow.kept (h.page x b cp hx) hgr (.inr (fun e=>by
      obtain ⟨_,hc2⟩:=owns_tag h.row e.symm
      exact tag_ne hc hc2 (by decide) rfl))
    exact h2.other (fun e=>tag_ne hc h.fields (by decide) e.symm) _
end
theorem GrewZ.fr {e:TypeId} {w w1:World} {v v':Value} {L n:Nat} {xs:List Value} {z:Value} (h:GrewZ e w v L n xs z v' w1):Fr (fun k=>v.ownBlock=some k) w w1∧(∀ k,v'.ownBlock=some k→v.ownBlock=some k∨k=w.heap.size):=by
  obtain ⟨g',cp',rfl,hrow,hgr,hb⟩:=h
  refine ⟨⟨hgr.os,hgr.tape,hgr.output,hgr.size,fun k hk hn=>hgr.block k hk (fun e=>hn e.symm)⟩,fun k hk=>?_⟩
  cases hk
  exact hb
theorem Paged.drewN {G:Int→Nat} {bs:List Int} {q:Int→Option (Nat × Nat)} {mp:Int} {n p:Nat} {bufv pgs:Value} {w:World} (h:Paged tg G bs q mp n p bufv pgs w) (k:Nat):Paged tg G bs q mp n p bufv pgs (w.drewN k):=⟨h.core.drewN k,h.inside,h.bd⟩
theorem Paged.grown {G:Int→Nat} {bs:List Int} {q:Int→Option (Nat × Nat)} {mp:Int} {n p:Nat} {bufv pgs:Value} {w w':World} (h:Paged tg G bs q mp n p bufv pgs w) (hg:w.grownBy w' none):Paged tg G bs q mp n p bufv pgs w':=⟨h.core.grown hg,h.inside,h.bd⟩
end Go.Proofs.YtllaekopaglolaaGreat
end
/-
  The store with pages: its small functions; a new one.
-/
section
namespace Go.Proofs.YtllaekopaglolaaGreat
open Go.RowKit
variable {tg:Int}
set_option maxRecDepth 100000 in
theorem pageIndex_any (p:Nat) (x:Int) (w:World) (h4:w.cell? ⟨p,4,none⟩=some (.int .i64 5)) :
    Calls Tryz.prog 264 #[.pointer (some ⟨p,0,none⟩),.int .i64 x] w fun e w'=>e = .returned (.int .i64 (x / 32))∧w=w':=by
  go_enter Tryz.func264,Tryz.ntmps264
  go_wp2
  go_ret
  exact ⟨rfl,rfl⟩
set_option maxRecDepth 100000 in
theorem lineIndex_any (p:Nat) (x:Int) (w:World) (h5:w.cell? ⟨p,5,none⟩=some (.int .i64 31)) :
    Calls Tryz.prog 265 #[.pointer (some ⟨p,0,none⟩),.int .i64 x] w fun e w'=>e = .returned (.int .i64 (x % 32))∧w=w':=by
  have hb:=bits31 x
  go_enter Tryz.func265,Tryz.ntmps265
  go_wp2
  go_ret
  exact ⟨rfl,rfl⟩
set_option maxRecDepth 100000 in
theorem index_any (p:Nat) (x y:Int) (w:World) (h4:w.cell? ⟨p,4,none⟩=some (.int .i64 5)) (x1:-100000≤x) (x2:x≤100000) (y1:0≤y) (y2:y≤100) :
    Calls Tryz.prog 268 #[.pointer (some ⟨p,0,none⟩),.int .i64 x,.int .i64 y] w fun e w'=>e = .returned (.int .i64 (32*x+y))∧w=w':=by
  have i1:IntKind.i64.wrap (x*32)=32*x:=by rw [IntKind.wrap_i64]; omega
  have i2:IntKind.i64.wrap (32*x+y)=32*x+y:=by rw [IntKind.wrap_i64]; omega
  clear x1 x2 y1 y2
  go_enter Tryz.func268,Tryz.ntmps268
  go_wp2
  go_ret
  exact ⟨rfl,rfl⟩
set_option maxRecDepth 100000 in
theorem newPagesLen_any (s:Value) (r:Nat) (hr:r<10000) (w:World) :
    Calls Tryz.prog 272 #[s,.int .i64 r] w fun e w'=>e = .returned (.int .i64 (((r+7) / 8*8:Nat):Int))∧w=w':=by
  have hb:=bitsM8 (r+7) (by omega)
  rw [show ((r+7:Nat):Int)=(r:Int)+7 from by omega] at hb
  obtain ⟨z,hz⟩:∃ z,z=(r+7) / 8*8:=⟨_,rfl⟩
  rw [← hz] at hb ⊢
  have i1:IntKind.i64.wrap ((r:Int)+8)=(r:Int)+8:=by rw [IntKind.wrap_i64]; omega
  have i2:IntKind.i64.wrap ((r:Int)+8 - 1)=(r:Int)+7:=by rw [IntKind.wrap_i64]; omega
  clear hz hr
  go_enter Tryz.func272,Tryz.ntmps272
  go_wp2
  go_ret
  exact ⟨rfl,rfl⟩
set_option maxRecDepth 100000 in
theorem newP_any (w:World):Calls Tryz.prog 56 #[] w fun e w'=>∃ p bufv,e = .returned (.pointer (some ⟨p,0,none⟩)) ∧
    Paged 64 (fun _=>0) [] (fun _=>none) 9223372036854775807 0 p bufv (.slice none 0 0) w'∧(∀ k,PFoot (fun _=>none) p bufv (.slice none 0 0) k→w.heap.size≤k)∧Fr (fun _=>False) w w':=by
  have infoI:(Tryz.prog.info? 3).map (fun i=>(i.zero,i.size,i.bytes))=some (some (.int .i64 0),1,8):=by kernel_rfl
  obtain ⟨i0,hi,hz0,hz1,hz2⟩:=info_parts infoI
  have hmk:=run_make (P:=Tryz.prog) w 128 3 i0 (.int .i64 0) Tryz.underlying128 hi hz0 .i64 .i64 0 4 (by decide) (by decide) (by rw [hz2]; decide) (by decide)
  rw [hz1,show ((4:Int).toNat)=4 from rfl,show ((0:Int).toNat)=0 from rfl] at hmk
  obtain ⟨cs,hcs⟩:∃ cs,cs=madeCells (Value.int .i64 0).cells (4*1):=⟨_,rfl⟩
  rw [← hcs] at hmk
  have hsz:cs.size=4*1:=by rw [hcs]; exact size_madeCells _ _
  clear hi hz0 hz1 hz2 infoI hcs
  go_enter Tryz.func56,Tryz.ntmps56
  go_wp2
  go_ret
  have hp:PS ((w.alloc (.cells cs 3)).alloc (.cells #[.slice (some ⟨w.heap.size,0,none⟩) 0 4,.int .i64 64,.slice none 0 0,.int .i64 9223372036854775807,.int .i64 5,.int .i64 31] 131)) (w.heap.size+1) (.slice (some ⟨w.heap.size,0,none⟩) 0 4) 64 (.slice none 0 0) 9223372036854775807:=by
    have h:=heap_alloc_new (w.alloc (.cells cs 3)) (.cells #[.slice (some ⟨w.heap.size,0,none⟩) 0 4,.int .i64 64,.slice none 0 0,.int .i64 9223372036854775807,.int .i64 5,.int .i64 31] 131)
    rw [show (w.alloc (.cells cs 3)).heap.size=w.heap.size+1 from by simp] at h
    exact h
  refine ⟨w.heap.size+1,_,rfl,⟨⟨hp,(World.ownsRow_made w cs 4 (Nat.zero_le _) (by unfold maxLen; omega) hsz).alloc _,World.ownsRow_nil _ _ _ _,(fun x b cp h=>by cases h),(fun _ _ _ _ _=>rfl),(fun x y b cp cp' h=>by cases h)⟩,(fun x b cp h=>by cases h),.inl ⟨rfl,rfl,rfl⟩⟩,fun k hk=>?_,((Fr.refl _ w).alloc _).alloc _⟩
  rcases hk with h | h | h | ⟨x,cp,h⟩
  · omega
  · cases h; exact Nat.le_refl _
  · simp [Value.ownBlock] at h
  · cases h
end Go.Proofs.YtllaekopaglolaaGreat
end
/-
  The store with pages: a page is given,and made if it isn't there.
-/
section
namespace Go.Proofs.YtllaekopaglolaaGreat
open Go.RowKit
variable {tg:Int}
theorem PFoot.more {q:Int→Option (Nat × Nat)} {p:Nat} {bufv pgs:Value} {k:Nat} (h:PFoot q p (.slice none 0 0) pgs k):PFoot q p bufv pgs k:=by
  rcases h with h | h | h | h
  · exact .inl h
  · simp [Value.ownBlock] at h
  · exact .inr (.inr (.inl h))
  · exact .inr (.inr (.inr h))
def PageGiven (tg:Int) (G:Int→Nat) (bs:List Int) (q:Int→Option (Nat × Nat)) (p:Nat) (bufv pgs:Value) (pi:Int) (w:World) (e:Ending) (w':World):Prop :=
  ∃ q' mp' n' pgs' b cp,e = .returned (.slice (some ⟨b,0,none⟩) 32 cp)∧Paged tg G bs q' mp' n' p bufv pgs' w'∧q' pi=some (b,cp)∧Fr (PFoot q p (.slice none 0 0) pgs) w w'∧(∀ k,PFoot q' p bufv pgs' k→PFoot q p bufv pgs k∨w.heap.size≤k)
theorem Paged.rowAt {G:Int→Nat} {bs:List Int} {q:Int→Option (Nat × Nat)} {mp:Int} {n p:Nat} {bufv pgs:Value} {w:World} (h:Paged tg G bs q mp n p bufv pgs w) (hn:0<n) :
    ∃ g cp,pgs = .slice (some ⟨g,0,none⟩) n cp∧n≤cp∧∀ j:Nat,j<n→w.cell? ⟨g,j,none⟩=some (pgV (q (mp+(j:Int)))):=by
  have hr:=h.core.row
  rcases id hr.2 with ⟨h1,h2⟩ | ⟨g,cp,cur,h1,_,_,h5,_⟩
  · omega
  · subst h1
    refine ⟨g,cp,rfl,h5,fun j hj=>?_⟩
    rw [World.ownsRow.cellAt hr j (by omega),rowV_get _ _ _ hj]
theorem Paged.newPage {G:Int→Nat} {bs:List Int} {q:Int→Option (Nat × Nat)} {mp:Int} {n p:Nat} {bufv:Value} {g c0:Nat} {W w1:World} {j:Nat} {pi:Int} {b cp:Nat}
   (h:Paged tg G bs q mp n p bufv (.slice (some ⟨g,0,none⟩) n c0) W) (hj:j<n) (hpi:pi=mp+(j:Int)) (hpr:-320≤pi∧pi≤320) (hq:q pi=none) (hrow:Row w1 b 32 cp (fun _=>0)) (hgr:W.grownBy w1 none) (hb:b=W.heap.size) :
    Paged tg G bs (upd q pi (some (b,cp))) mp n p bufv (.slice (some ⟨g,0,none⟩) n c0) (w1.setCell ⟨g,j,none⟩ (.slice (some ⟨b,0,none⟩) 32 cp)):=by
  have h1:=h.core.grown hgr
  have h2:=h1.setPage j (.slice (some ⟨b,0,none⟩) 32 cp)
  have hgW:g<W.heap.size:=by obtain ⟨_,hc⟩:=owns_tag h.core.row (k:=g) rfl; exact lt_of_block hc
  refine ⟨⟨h2.fields,h2.buf,?_,fun x b2 cp2 hx=>?_,fun x hx k k0 k1=>?_,fun x y b2 c1 c2 hx hy=>?_⟩,fun x b2 cp2 hx=>?_,h.bd⟩
  · have h3:=h2.row
    rw [rowV_ext (b:=fun i=>pgV (upd q pi (some (b,cp)) (mp+(i:Int))))] at h3
    · exact h3
    · intro i hi
      unfold upd
      by_cases c:i=j
      · rw [if_pos c,if_pos (by rw [c,hpi])]; rfl
      · rw [if_neg c,if_neg (by omega)]
  · unfold upd at hx
    by_cases c:x=pi
    · rw [if_pos c] at hx
      cases hx
      refine (hrow.ext (fun k hk=>?_)).other (by show g≠_; omega) _
      rw [c]; exact (h.core.zero pi hq (k:Int) (by omega) (by omega)).symm
    · rw [if_neg c] at hx
      exact h2.page x b2 cp2 hx
  · unfold upd at hx
    by_cases c:x=pi
    · rw [if_pos c] at hx; cases hx
    · rw [if_neg c] at hx; exact h.core.zero x hx k k0 k1
  · have hold:∀ x b2 c2,q x=some (b2,c2)→b2≠b:=fun x b2 c2 hx=>by have:=(h.core.page x b2 c2 hx).lt; omega
    unfold upd at hx hy
    by_cases c:x=pi
    · by_cases c3:y=pi
      · rw [c,c3]
      · rw [if_pos c] at hx; rw [if_neg c3] at hy; cases hx; exact absurd rfl (hold y _ _ hy)
    · by_cases c3:y=pi
      · rw [if_neg c] at hx; rw [if_pos c3] at hy; cases hy; exact absurd rfl (hold x _ _ hx)
      · rw [if_neg c] at hx; rw [if_neg c3] at hy; exact h.core.inj x y b2 c1 c2 hx hy
  · unfold upd at hx
    by_cases c:x=pi
    · rw [c]; omega
    · rw [if_neg c] at hx; exact h.inside x b2 cp2 hx
theorem PFoot.newPage {q:Int→Option (Nat × Nat)} {p:Nat} {bufv pgs:Value} {pi:Int} {b cp k:Nat} (h:PFoot (upd q pi (some (b,cp))) p bufv pgs k):PFoot q p bufv pgs k∨k=b:=by
  rcases h with h | h | h | ⟨x,c,h⟩
  · exact .inl (.inl h)
  · exact .inl (.inr (.inl h))
  · exact .inl (.inr (.inr (.inl h)))
  · unfold upd at h
    split at h
    · cases h; exact .inr rfl
    · exact .inl (.inr (.inr (.inr ⟨x,c,h⟩)))
set_option maxRecDepth 100000 in
set_option maxHeartbeats 400000 in
theorem pageA1_any (G:Int→Nat) (bs:List Int) (q:Int→Option (Nat × Nat)) (mp:Int) (n p:Nat) (bufv pgs:Value) (pi:Int) (b cp:Nat) (w:World) (h:Paged tg G bs q mp n p bufv pgs w) (hq:q pi=some (b,cp)) :
    Calls Tryz.prog 263 #[.pointer (some ⟨p,0,none⟩),.int .i64 pi,.bool true] w fun e w'=>PageGiven tg G bs q p bufv pgs pi w e w':=by
  obtain ⟨hi1,hi2,-⟩:=h.inside pi b cp hq
  have hn:0<n:=by omega
  have hbd:-330≤mp∧mp+(n:Int)≤330:=by rcases h.bd with ⟨h1,_,_⟩ | ⟨_,h2,h3⟩ <;> omega
  obtain ⟨g,c0,rfl,hgc,hcell⟩:=h.rowAt hn
  obtain ⟨j,hj⟩:∃ j:Nat,pi=mp+(j:Int):=⟨(pi - mp).toNat,by omega⟩
  subst hj
  have hjn:j<n:=by omega
  have hjn':(j:Int)<(n:Int):=by omega
  have hc:=hcell j hjn
  rw [hq] at hc
  replace hc:w.cell? ⟨g,j,none⟩=some (.slice (some ⟨b,0,none⟩) 32 cp):=hc
  obtain ⟨d0,d1,d2,d3,d4,d5⟩:=h.core.fields.cells
  have q1:decide (mp≤mp+(j:Int))=true:=by simp; omega
  have i1:IntKind.i64.wrap (mp+(n:Int))=mp+(n:Int):=by rw [IntKind.wrap_i64]; omega
  have i2:IntKind.i64.wrap (mp+(j:Int) - mp)=(j:Int):=by rw [IntKind.wrap_i64]; omega
  have q2:decide (mp+(j:Int)<mp+(n:Int))=true:=by simpa using hjn'
  have HH:=Lib.hid h
  have HQ:=Lib.hid hq
  clear h hq hcell hi1 hi2
  go_enter Tryz.func263,Tryz.ntmps263
  go_wp2
  go_quiet (fail)
  go_wp2
  revert nq
  intro n1
  go_quiet (fail)
  go_wp2
  go_ret
  exact ⟨q,mp,n,_,b,cp,rfl,HH.out.drewN (n1+nq),HQ.out,(Fr.refl _ w).drewN (n1+nq),fun k hk=>.inl hk⟩
set_option maxRecDepth 100000 in
set_option maxHeartbeats 400000 in
theorem pageA2_any (G:Int→Nat) (bs:List Int) (q:Int→Option (Nat × Nat)) (mp:Int) (n p:Nat) (bufv pgs:Value) (pi:Int) (w:World) (h:Paged tg G bs q mp n p bufv pgs w) (hq:q pi=none) (hi1:mp≤pi) (hi2:pi<mp+n) (hp1:-320≤pi) (hp2:pi≤320) :
    Calls Tryz.prog 263 #[.pointer (some ⟨p,0,none⟩),.int .i64 pi,.bool true] w fun e w'=>PageGiven tg G bs q p bufv pgs pi w e w':=by
  have hn:0<n:=by omega
  have hbd:-330≤mp∧mp+(n:Int)≤330:=by rcases h.bd with ⟨h1,_,_⟩ | ⟨_,h2,h3⟩ <;> omega
  obtain ⟨g,c0,rfl,hgc,hcell⟩:=h.rowAt hn
  obtain ⟨j,hj⟩:∃ j:Nat,pi=mp+(j:Int):=⟨(pi - mp).toNat,by omega⟩
  have hjn:j<n:=by omega
  have hc:=hcell j hjn
  rw [← hj,hq] at hc
  replace hc:w.cell? ⟨g,j,none⟩=some (.slice none 0 0):=hc
  have HQ:=Lib.hid hq
  have HPI:=Lib.hid (And.intro hp1 hp2)
  subst hj
  have hjn':(j:Int)<(n:Int):=by omega
  obtain ⟨d0,d1,d2,d3,d4,d5⟩:=h.core.fields.cells
  have q1:decide (mp≤mp+(j:Int))=true:=by simp; omega
  have i1:IntKind.i64.wrap (mp+(n:Int))=mp+(n:Int):=by rw [IntKind.wrap_i64]; omega
  have i2:IntKind.i64.wrap (mp+(j:Int) - mp)=(j:Int):=by rw [IntKind.wrap_i64]; omega
  have q2:decide (mp+(j:Int)<mp+(n:Int))=true:=by simpa using hjn'
  have HH:=Lib.hid h
  clear h hq hcell hi1 hi2
  go_enter Tryz.func263,Tryz.ntmps263
  go_wp2
  go_quiet (fail)
  go_wp2
  revert nq
  intro n1
  go_quiet (fail)
  obtain ⟨W,hW⟩:∃ W,W=(w.drewN n1).drewN nq:=⟨_,rfl⟩
  have hhW:Paged tg G bs q mp n p bufv (.slice (some ⟨g,0,none⟩) n c0) W:=by rw [hW]; exact (HH.out.drewN n1).drewN nq
  have hcW:W.cell? ⟨g,j,none⟩=some (.slice none 0 0):=by rw [hW]; exact hc
  have HFW:Hid (Fr (PFoot q p (.slice none 0 0) (.slice (some ⟨g,0,none⟩) n c0)) w W):=by show Fr _ _ _; rw [hW]; exact ((Fr.refl _ w).drewN n1).drewN nq
  have HSZ:Hid (W.heap.size=w.heap.size):=by show _=_; rw [hW]; rfl
  rw [← hW]
  have HHW:=Lib.hid hhW
  clear hW hc d0 d1 d2 d3 d4 d5 HH hhW
  go_wp2_with (at_builtin; refine wpList_append_fz W rfl _ _ 23 3 rfl Tryz.underlying23 Tryz.underlying3 Tryz.infoF64 (.slice none 0 0) 0 32 (fun _=>0) rfl rfl (.inl ⟨rfl,rfl⟩) (by decide) (by decide) (by decide) ?_; intro v' w1 hgr; obtain ⟨b,cp,rfl,hrow,hgrow,hg⟩:=hgr; have hb:b=W.heap.size:=hg.elim (fun h=>by simp [Value.ownBlock] at h) id; have hp1:=HHW.out.grown hgrow; have hc1:w1.cell? ⟨g,j,none⟩=some (.slice none 0 0):=(by obtain ⟨g2,c2,e,_,hcc⟩:=hp1.rowAt hn; cases e; have:=hcc j hjn; rw [HQ.out] at this; exact this); have hf1:=World.ownsRow.frozenAt hp1.core.row j; have HRW:=Lib.hid hrow; have HGR:=Lib.hid hgrow; have HB:=Lib.hid hb; clear hrow hgrow hg hb hp1 hcW)
  go_ret
  have hnew:=HHW.out.newPage hjn rfl HPI.out HQ.out HRW.out HGR.out HB.out
  refine ⟨_,mp,n,_,b,cp,rfl,hnew,by unfold upd; rw [if_pos rfl],?_,fun k hk=>?_⟩
  · refine (HFW.out.trans (T:=fun _=>False) ⟨HGR.out.os,HGR.out.tape,HGR.out.output,HGR.out.size,fun k hk _=>HGR.out.block k hk (by simp [Value.ownBlock])⟩ (fun _ _ h=>h) (fun _ _ h=>h.elim)).setCell (p:=⟨g,j,none⟩) (fun _=>.inr (.inr (.inl rfl))) _
  · rcases hk.newPage with h | h
    · exact .inl h
    · right; rw [h,HB.out,HSZ.out]; exact Nat.le_refl _
end Go.Proofs.YtllaekopaglolaaGreat
end
