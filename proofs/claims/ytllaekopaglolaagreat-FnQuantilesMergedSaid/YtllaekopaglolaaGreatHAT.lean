/-
  For the store with pages,plainly: shifts and masks; counts of a list of indexes; the walk over both at once.
-/
import Derived.Test.YtllaekopaglolaaGreatHAR
import Derived.Laws.BitsAllLaws
import Derived.Test.YtllaekopaglolaaGreatHAM
import Derived.Test.YtllaekopaglolaaGreatHAQ
section
namespace Go.Proofs.YtllaekopaglolaaGreat
open Go.RowKit Ieee
theorem zXK (x:Int):bits .and .i64 x 31=x % 32:=by
  show IntKind.i64.wrap (((BitVec.ofInt 64 x) &&& (BitVec.ofInt 64 31)).toNat:Int)=_
  rw [BitVec.toNat_and,show (BitVec.ofInt 64 31).toNat=31 from rfl,nat_mask5,BitVec.toNat_ofInt,IntKind.wrap_i64]
  omega
theorem zXJ (x:Nat) (h:x<1000000):bits .and .i64 (x:Int) (-8)=((x / 8*8:Nat):Int):=by
  show IntKind.i64.wrap (((BitVec.ofInt 64 (x:Int)) &&& (BitVec.ofInt 64 (-8))).toNat:Int)=_
  rw [BitVec.toNat_and,show (BitVec.ofInt 64 (-8)).toNat=2^64 - 2^3 from by decide +kernel,nat_midmask 64 3 _ (by decide),BitVec.toNat_ofInt,IntKind.wrap_i64]
  rw [show ((x:Int) % ((2^64:Nat):Int)).toNat=x from by omega,Nat.mod_eq_of_lt (a:=x) (b:=2^64) (by omega)]
  omega
theorem zFQ {a b r:Nat} (hab:a≤b) (hb:b<9007199254740992) (h:fgt2 (nf a) r=true):fgt2 (nf b) r=true:=by
  obtain ⟨m,i,h1,h2,h3⟩:=zBf a (by omega)
  obtain ⟨n,j,k1,k2,k3⟩:=zBf b hb
  unfold fgt2 at *
  have e:∀ x y,FloatKind.f64.format.order x y=(double.read x).order (double.read y):=fun _ _=>rfl
  rw [e,h1] at h
  rw [e,k1]
  cases hr:double.read r with
  | number s q p =>
    obtain ⟨hp,_,_⟩:=zAT hr
    rw [hr,zCC _ _ _ _ _ _ h2 hp,h3] at h
    rw [zCC _ _ _ _ _ _ k2 hp,k3]
    have h4:sv s q p<(a:Int)*2^1074:=by
      generalize (a:Int)*2^1074=V at h ⊢
      generalize sv s q p=U at h ⊢
      rcases Int.lt_trichotomy U V with h5 | h5 | h5
      · exact h5
      · rw [h5] at h; simp at h
      · rw [Int.compare_eq_lt.2 h5] at h; cases h
    have h6:(a:Int)*2^1074≤(b:Int)*2^1074:=Int.mul_le_mul_of_nonneg_right (by omega) (Int.le_of_lt zCM)
    rw [Int.compare_eq_gt.2 (Int.lt_of_lt_of_le h4 h6)]
    rfl
  | infinity s=>rw [hr] at h; exact h
  | nan=>rw [hr] at h; cases h
def cntI (bs:List Int):Int→Nat:=cntB (bs.map fun b=>(b,1))
theorem zCH (b:Int) (bs:List Int):cntI (b :: bs)=zAe (cntI bs) b 1:=rfl
theorem zFb (bs:List Int) (b:Int):cntI (bs++[b])=zAe (cntI bs) b 1:=by
  unfold cntI; rw [List.map_append]; exact zFd _ (b,1)
theorem zFc {a b:List Int} (h:a.Perm b):cntI a=cntI b:=by
  induction h with
  | nil=>rfl
  | cons x _ ih=>rw [zCH,zCH,ih]
  | swap x y l=>rw [zCH,zCH,zCH,zCH,zF3]
  | trans _ _ h1 h2=>rw [h1,h2]
def InI (bs:List Int):Prop:=∀ b∈bs,-10000≤b∧b≤10000
theorem zUx {bs:List Int} {x:Int} (h:x∈bs):0<cntI bs x:=by
  induction bs with
  | nil=>cases h
  | cons b t ih =>
    rw [zCH]; unfold zAe
    split
    · omega
    · rcases List.mem_cons.1 h with h | h
      · rename_i hn; exact absurd h hn
      · exact ih h
theorem zFW {bs:List Int} (h:InI bs) (x:Int):cum (cntI bs) x=(bs.filter fun b=>decide (b<x)).length:=by
  induction bs with
  | nil=>exact zBF _ _ (fun _ _=>rfl)
  | cons b t ih =>
    rw [zCH,zFX _ _ _ _ (h b List.mem_cons_self).1,ih (fun c hc=>h c (List.mem_cons_of_mem _ hc))]
    by_cases c:b<x
    · rw [if_pos c,List.filter_cons_of_pos (by simp; omega)]; rfl
    · rw [if_neg c,List.filter_cons_of_neg (by simp; omega)]; rfl
theorem zHg {bs:List Int} (h:InI bs) (x:Int) (k:Nat) (hk:k≤bs.length) (hl:∀ j,(hj:j<bs.length)→j<k→bs[j]<x):k≤cum (cntI bs) x:=by
  have e:(bs.take k).filter (fun b=>decide (b<x))=bs.take k:=List.filter_eq_self.2 (fun b hb=>by
    obtain ⟨j,hj,rfl⟩:=List.getElem_of_mem hb
    rw [List.length_take] at hj
    rw [List.getElem_take]
    have:=hl j (by omega) (by omega)
    simpa using this)
  rw [zFW h,← List.take_append_drop k bs,List.filter_append,List.length_append,e,List.length_take]
  omega
theorem zHf {bs:List Int} (h:InI bs) (x:Int) (k:Nat) (hk:k≤bs.length) (hl:∀ j,(hj:j<bs.length)→k≤j→x≤bs[j]):cum (cntI bs) x≤k:=by
  have e:(bs.drop k).filter (fun b=>decide (b<x))=[]:=List.filter_eq_nil_iff.2 (fun b hb=>by
    obtain ⟨j,hj,rfl⟩:=List.getElem_of_mem hb
    rw [List.length_drop] at hj
    rw [List.getElem_drop]
    have:=hl (k+j) (by omega) (by omega)
    simpa using this)
  rw [zFW h,← List.take_append_drop k bs,List.filter_append,List.length_append,e]
  have:=List.length_filter_le (fun b=>decide (b<x)) (bs.take k)
  rw [List.length_take] at this
  simp only [List.length_nil]; omega
theorem zRP (f g:Int→Nat) (a:Int) (k:Nat):sumF (fun i=>f i+g i) a k=sumF f a k+sumF g a k:=by
  induction k with
  | zero=>rfl
  | succ k ih=>rw [sumF,sumF,sumF,ih]; omega
theorem zFV (f g:Int→Nat) (x:Int):cum (fun i=>f i+g i) x=cum f x+cum g x:=zRP _ _ _ _
theorem zI4 {f:Int→Nat} (hz:∀ i,i < -10000→f i=0) (x:Int):cum f (x+1)=cum f x+f x:=by
  by_cases h:-10000≤x
  · exact zFU f x h
  · rw [zBF f x (fun i hi=>hz i (by omega)),zBF f (x+1) (fun i hi=>hz i (by omega)),hz x (by omega)]
def both (G:Int→Nat) (bs:List Int):Int→Nat:=fun i=>G i+cntI bs i
structure Cur (G:Int→Nat) (bs:List Int) (r:Nat) (x:Int) (bp:Nat):Prop where
  le:bp≤bs.length
  lt:∀ j,(hj:j<bs.length)→j<bp→bs[j]<x
  gap:∀ j,(hj:j<bs.length)→bp≤j→∀ i,bs[j]<i→i<x→G i=0
  no:fgt2 (nf (cum G x+bp)) r=false
section
variable {G:Int→Nat} {bs:List Int} {r:Nat} {x:Int} {bp:Nat}
theorem Cur.take (h:Cur G bs r x bp) (hj:bp<bs.length) (hx:bs[bp]<x) (hno:fgt2 (nf (cum G x+(bp+1))) r=false):Cur G bs r x (bp+1) where
  le:=hj
  lt:=fun j hj2 hjb=>by
    by_cases e:j=bp
    · subst e; exact hx
    · exact h.lt j hj2 (by omega)
  gap:=fun j hj2 hjb=>h.gap j hj2 (by omega)
  no:=hno
theorem Cur.found (h:Cur G bs r x bp) (hI:InI bs) (hs:bs.Pairwise (· ≤ ·)) (hG:∀ i,i < -10000∨10000<i→G i=0) (hT:tot2 G+bs.length<9007199254740992) (hj:bp<bs.length) (hxle:bs[bp]<x)
   (hyes:fgt2 (nf (cum G x+(bp+1))) r=true):zB5 (both G bs) r bs[bp]:=by
  have hle:∀ i j,(hi:i<bs.length)→(hj:j<bs.length)→i≤j→bs[i]≤bs[j]:=fun i j hi hj hij=>by
    rcases Nat.lt_or_eq_of_le hij with h | h
    · exact List.pairwise_iff_getElem.1 hs i j hi hj h
    · subst h; exact Int.le_refl _
  have hcG:∀ y,cum G y≤tot2 G:=fun y=>by
    by_cases c:y≤10001
    · exact zCR G y c
    · rw [zBv,zBM G 10001 y (by omega) (fun i h1 _=>hG i (.inr (by omega)))]; omega
  refine ⟨?_,fun y hy=>?_⟩
  · have e:cum G (bs[bp]+1)=cum G x:=(zBM G (bs[bp]+1) x (by omega) (fun i h1 h2=>h.gap bp hj (Nat.le_refl _) i (by omega) h2)).symm
    unfold both
    rw [zFV,e]
    have h1:=zHg hI (bs[bp]+1) (bp+1) hj (fun j hj2 hjb=>by have:=hle j bp hj2 hj (by omega); omega)
    refine zFQ (Nat.add_le_add_left h1 _) ?_ hyes
    have:=hcG x
    rw [zFW hI]
    have:=List.length_filter_le (fun b=>decide (b<bs[bp]+1)) bs
    omega
  · unfold both
    rw [zFV]
    have h1:=zHf hI (y+1) bp h.le (fun j hj2 hjb=>by have:=hle bp j hj hj2 hjb; omega)
    have h2:=zI5 G (y+1) x (by omega)
    cases hc:fgt2 (nf (cum G (y+1)+cum (cntI bs) (y+1))) r
    · rfl
    · have:=zFQ (show cum G (y+1)+cum (cntI bs) (y+1)≤cum G x+bp from by omega) (by have:=hcG x; have:=h.le; omega) hc
      rw [h.no] at this; cases this
theorem Cur.at (h:Cur G bs r x bp) (hI:InI bs) (hG:∀ i,i < -10000∨10000<i→G i=0) (hT:tot2 G+bs.length<9007199254740992) (hrest:∀ j,(hj:j<bs.length)→bp≤j→x≤bs[j])
   (hyes:fgt2 (nf (cum G (x+1)+bp)) r=true):zB5 (both G bs) r x:=by
  have hcG:∀ y,cum G y≤tot2 G:=fun y=>by
    by_cases c:y≤10001
    · exact zCR G y c
    · rw [zBv,zBM G 10001 y (by omega) (fun i h1 _=>hG i (.inr (by omega)))]; omega
  refine ⟨?_,fun y hy=>?_⟩
  · unfold both
    rw [zFV]
    have h1:=zHg hI (x+1) bp h.le (fun j hj2 hjb=>by have:=h.lt j hj2 hjb; omega)
    refine zFQ (Nat.add_le_add_left h1 _) ?_ hyes
    have:=hcG (x+1)
    rw [zFW hI]
    have:=List.length_filter_le (fun b=>decide (b<x+1)) bs
    omega
  · unfold both
    rw [zFV]
    have h1:=zHf hI (y+1) bp h.le (fun j hj2 hjb=>by have:=hrest j hj2 hjb; omega)
    have h2:=zI5 G (y+1) x (by omega)
    cases hc:fgt2 (nf (cum G (y+1)+cum (cntI bs) (y+1))) r
    · rfl
    · have:=zFQ (show cum G (y+1)+cum (cntI bs) (y+1)≤cum G x+bp from by omega) (by have:=hcG x; have:=h.le; omega) hc
      rw [h.no] at this; cases this
theorem Cur.next (h:Cur G bs r x bp) (hrest:∀ j,(hj:j<bs.length)→bp≤j→x≤bs[j]) (hno:fgt2 (nf (cum G (x+1)+bp)) r=false):Cur G bs r (x+1) bp where
  le:=h.le
  lt:=fun j hj hjb=>by have:=h.lt j hj hjb; omega
  gap:=fun j hj hjb i h1 h2=>by have:=hrest j hj hjb; omega
  no:=hno
theorem Cur.skip (h:Cur G bs r x bp) (y:Int) (hy:x≤y) (hz:∀ i,x≤i→i<y→G i=0):Cur G bs r y bp where
  le:=h.le
  lt:=fun j hj hjb=>by have:=h.lt j hj hjb; omega
  gap:=fun j hj hjb i h1 h2=>by
    by_cases c:i<x
    · exact h.gap j hj hjb i h1 c
    · exact hz i (by omega) h2
  no:=by rw [zBM G x y hy hz]; exact h.no
end
def below (F:Int→Nat) (y:Int):Bins:=nz F (-10000) (y+10000).toNat
end Go.Proofs.YtllaekopaglolaaGreat
end
/-
  The store with pages in memory; append of empty slices.
-/
section
namespace Go.Proofs.YtllaekopaglolaaGreat
open Go.RowKit
variable {tg:Int}
section
variable {P:Program} (w:World)
theorem zE6 (t tI ty e:TypeId) (i:TypeInfo) (z:Value) (ht:P.underlying t=some (.slice e)) (hI:P.underlying tI=some (.int .i64)) (hi:P.info? e=some i) (hz:i.zero=some z) (hs:i.size=1) (hb:i.bytes≤32) (hzc:z.cells = #[z]) (hz1:z.oneCell'=true)
    (g sLen sCap n:Nat) (hn0:0<n) (hn:n<10000000) (cur:Array Value) (hg:w.heap[g]?=some (.cells cur e (0,0))) (hroom:sLen+n≤sCap) (hfit:sLen+n≤cur.size) :
    (Builtin.append_ #[t,tI] ty #[.slice (some ⟨g,0,none⟩) sLen sCap,.int .i64 n]).run P w =
      .ok (.slice (some ⟨g,0,none⟩) (sLen+n) sCap) (w.setRow g (cur.toList.take sLen++List.replicate n z++cur.toList.drop (sLen+n)).toArray):=by
  have hst:=run_storeCells_at P g sLen e (List.replicate n z) 0 cur w hg (by simp; omega) (by intro u hu; rw [List.eq_of_mem_replicate hu]; exact hz1)
  simp only [Nat.add_zero,List.length_replicate] at hst
  have hw:IntKind.i64.wrap (n:Int)=n:=by rw [IntKind.wrap_i64]; omega
  have h1:¬ ((n:Int)<0):=by omega
  have h2:¬ (281474976710656<(n:Int)*(i.bytes:Int)):=by
    have:(n:Int)*(i.bytes:Int)≤10000000*32:=Int.mul_le_mul (by omega) (by omega) (by omega) (by omega)
    omega
  have h3:¬ n=0:=by omega
  simp [Builtin.append_,run_underlying ht,run_underlying hI,sizeOf,typeInfo,zeroValue,hi,hz,hs,asInt,asIntOf,hw,h1,h2,h3,hroom,hzc,zCe,Addr.add_lit,hst]
theorem zC8 (t tI ty e:TypeId) (i:TypeInfo) (z:Value) (ht:P.underlying t=some (.slice e)) (hI:P.underlying tI=some (.int .i64)) (hi:P.info? e=some i) (hz:i.zero=some z) (hs:i.size=1) (hb:i.bytes≤32) (hzc:z.cells = #[z])
    (ao:Option Addr) (sLen sCap n:Nat) (olds:List Value) (hlo:olds.length=sLen) (holds:(Builtin.firstCells 1 sLen (.slice ao sLen sCap)).run P w.drew = .ok olds.toArray w.drew) (hn0:0<n) (hn:n<10000000) (hsl:sLen<10000000)
    (hg:sCap<sLen+n) :
    (Builtin.append_ #[t,tI] ty #[.slice ao sLen sCap,.int .i64 n]).run P w =
      .ok (.slice (some ⟨w.heap.size,0,none⟩) (sLen+n) (grownCap w (sLen+n) sCap e))
        (w.drew.alloc (.cells (olds.toArray++(List.replicate n z).toArray++Builtin.zeroCells #[z] (grownCap w (sLen+n) sCap e - (sLen+n))) e)):=by
  have hn':¬ (sLen+n≤sCap):=by omega
  have hw:IntKind.i64.wrap (n:Int)=n:=by rw [IntKind.wrap_i64]; omega
  have h1:¬ ((n:Int)<0):=by omega
  have h2:¬ (281474976710656<(n:Int)*(i.bytes:Int)):=by
    have:(n:Int)*(i.bytes:Int)≤10000000*32:=Int.mul_le_mul (by omega) (by omega) (by omega) (by omega)
    omega
  have h3:¬ n=0:=by omega
  have h63':¬ (9223372036854775807<((sLen:Int)+(n:Int))):=by omega
  have h48':¬ (281474976710656<Builtin.nextslicecap (sLen+n) sCap*i.bytes):=by
    have:=growslice_fits (need:=sLen+n) (old:=sCap) (bytes:=i.bytes) (by omega) (by
      have:(sLen+n)*i.bytes≤20000000*32:=Nat.mul_le_mul (by omega) hb
      omega)
    omega
  have hz2:=zCe z n
  simp [Builtin.append_,run_underlying ht,run_underlying hI,sizeOf,typeInfo,zeroValue,hi,hz,hs,asInt,asIntOf,hw,h1,h2,h3,hn',h63',h48',hzc,hz2,Question.forced,holds,newRow,grownCap]
end
def zNe (e:TypeId) (w:World) (v:Value) (L n:Nat) (xs:List Value) (z:Value) (v':Value) (w':World):Prop :=
  ∃ g' cp',v' = .slice (some ⟨g',0,none⟩) (L+n) cp'∧w'.ownsRow 0 e 1 v' (L+n) (xs++List.replicate n z)∧w.grownBy w' v.ownBlock∧(v.ownBlock=some g'∨g'=w.heap.size)
theorem zE7 {P:Program} (w:World) (t tI ty e:TypeId) (z:Value) (by0:Nat) (ht:P.underlying t=some (.slice e)) (hI:P.underlying tI=some (.int .i64))
    (hinfo:(P.info? e).map (fun i=>(i.zero,i.size,i.bytes))=some (some z,1,by0)) (hby:by0≤32) (hzc:z.cells = #[z]) (hz1:z.oneCell'=true)
    (v:Value) (L n:Nat) (xs:List Value) (h:w.ownsRow 0 e 1 v L xs) (hn0:0<n) (hn:n<10000000) (hL:L<10000000) :
    ∃ v' w',(Builtin.append_ #[t,tI] ty #[v,.int .i64 n]).run P w = .ok v' w'∧zNe e w v L n xs z v' w':=by
  obtain ⟨i,hi,hz,hs,hb⟩:=info_parts hinfo
  have hxl:xs.length=L:=by have:=h.1; omega
  have hlen:(xs++List.replicate n z).length=L+n:=by simp [hxl]
  have grown:∀ (old:Nat),old<L+n→∀ (row':Option Nat),
      (w.drew.alloc (.cells (xs.toArray++(List.replicate n z).toArray++Builtin.zeroCells #[z] (grownCap w (L+n) old e - (L+n))) e)).ownsRow 0 e 1 (.slice (some ⟨w.heap.size,0,none⟩) (L+n) (grownCap w (L+n) old e)) (L+n) (xs++List.replicate n z) ∧
      w.grownBy (w.drew.alloc (.cells (xs.toArray++(List.replicate n z).toArray++Builtin.zeroCells #[z] (grownCap w (L+n) old e - (L+n))) e)) row':=by
    intro old ho row'
    have hge:=grownCap_ge w (L+n) old e
    have hcm:grownCap w (L+n) old e≤maxLen:=grownCap_le_maxLen w (L+n) old e (by unfold maxLen; omega)
    refine ⟨⟨by rw [hlen]; omega,.inr ⟨w.heap.size,_,_,rfl,Nat.zero_le _,heap_alloc_new w.drew _,hge,hcm,?_,?_⟩⟩,⟨rfl,rfl,rfl,by simp,fun k hk _=>Below.heap_alloc w.drew _ k hk⟩⟩
    · simp only [Array.size_append,List.size_toArray,size_zeroCells,hxl,List.length_replicate]
      simp; omega
    · simp only [Array.toList_append,List.append_assoc]
      rw [← List.append_assoc,Nat.mul_one]
      conv=>lhs; arg 1; rw [← hlen]
      exact List.take_left
  rcases h.2 with ⟨rfl,rfl⟩ | ⟨g,cp,cur,rfl,_,hg,h1,h2,h3,h4⟩
  · have hx0:xs=[]:=List.eq_nil_of_length_eq_zero hxl
    subst hx0
    have hr:=zC8 (P:=P) w t tI ty e i z ht hI hi hz hs (by omega) hzc none 0 0 n [] rfl (by simp [Builtin.firstCells]) hn0 hn (by omega) (by omega)
    have hgr:=grown 0 (by omega) (Value.ownBlock (.slice none 0 0))
    exact ⟨_,_,hr,w.heap.size,_,rfl,hgr.1,hgr.2,.inr rfl⟩
  · rw [Nat.mul_one] at h4 h3
    by_cases hroom:L+n≤cp
    · have hrun:=zE6 (P:=P) w t tI ty e i z ht hI hi hz hs (by omega) hzc hz1 g L cp n hn0 hn cur hg hroom (by omega)
      refine ⟨_,_,hrun,g,cp,rfl,⟨by rw [hlen]; omega,.inr ⟨g,cp,_,rfl,Nat.zero_le _,setRow_heap w g cur _ _ _ hg,hroom,h2,?_,?_⟩⟩,⟨rfl,rfl,rfl,by simp [World.setRow],fun k _ hk=>setRow_other w g k _ (fun e=>hk (by simp [Value.ownBlock,e]))⟩,.inl rfl⟩
      · simp only [List.size_toArray,List.length_append,List.length_take,List.length_drop,Array.length_toList,List.length_replicate]
        omega
      · rw [h4,Nat.mul_one]
        conv=>lhs; arg 1; rw [← hlen]
        exact List.take_left
    · have hfo:=run_firstCells_some (P:=P) w.drew 1 L ⟨g,0,none⟩ L cp xs (by omega) (World.ownsRow.cells h (g:=g) rfl)
      have hrun:=zC8 (P:=P) w t tI ty e i z ht hI hi hz hs (by omega) hzc (some ⟨g,0,none⟩) L cp n xs hxl hfo hn0 hn hL (by omega)
      have hgr:=grown cp (by omega) (Value.ownBlock (.slice (some ⟨g,0,none⟩) L cp))
      exact ⟨_,_,hrun,w.heap.size,_,rfl,hgr.1,hgr.2,.inr rfl⟩
theorem zGT {P:Program} (w:World) {ops:Array Oper} {rest:List Oper} {o:Oper} {a:Act} {Q:Exit→Act→World→Prop} (hgd:o.guard=none) (s x:Operand) (t tI e:TypeId) (z:Value) (by0:Nat)
    (ho:o.op = .call { callee:=.builtin .append,args:=#[s,x],argTypes:=#[t,tI] }) (ht:P.underlying t=some (.slice e)) (hI:P.underlying tI=some (.int .i64))
    (hinfo:(P.info? e).map (fun i=>(i.zero,i.size,i.bytes))=some (some z,1,by0)) (hby:by0≤32) (hzc:z.cells = #[z]) (hz1:z.oneCell'=true)
    (v:Value) (L n:Nat) (xs:List Value) (hs:a.eval s=v) (hx:a.eval x = .int .i64 n) (h:w.ownsRow 0 e 1 v L xs) (hn0:0<n) (hn:n<10000000) (hL:L<10000000)
    (hk:∀ v' w',zNe e w v L n xs z v' w'→wpList P ops Q rest (a.put o.dst v') w'):wpList P ops Q (o :: rest) a w:=by
  obtain ⟨v',w',hr,h2⟩:=zE7 (P:=P) w t tI o.type e z by0 ht hI hinfo hby hzc hz1 v L n xs h hn0 hn hL
  refine wpList_plain hgd fun K hK=>?_
  unfold Oper.wp execOp
  simp only [ho,resolve,invoke,builtin,Sem.run_bind,Sem.run_pure,Result.andThen_ok,List.map_toArray,List.map_cons,List.map_nil,hs,hx,hr]
  exact hK _ _ (hk v' w' h2)
theorem zF5 {P:Program} (w:World) {o:Oper} {a:Act} {K:Act→World→Prop} {Q:Exit→Act→World→Prop} (s x:Operand) (t tI e:TypeId) (z:Value) (by0:Nat)
    (ho:o.op = .call { callee:=.builtin .append,args:=#[s,x],argTypes:=#[t,tI] }) (ht:P.underlying t=some (.slice e)) (hI:P.underlying tI=some (.int .i64))
    (hinfo:(P.info? e).map (fun i=>(i.zero,i.size,i.bytes))=some (some z,1,by0)) (hby:by0≤32) (hzc:z.cells = #[z]) (hz1:z.oneCell'=true)
    (v:Value) (L n:Nat) (xs:List Value) (hs:a.eval s=v) (hx:a.eval x = .int .i64 n) (h:w.ownsRow 0 e 1 v L xs) (hn0:0<n) (hn:n<10000000) (hL:L<10000000)
    (hk:∀ v' w',zNe e w v L n xs z v' w'→K (a.put o.dst v') w'):o.wp P a w K Q:=by
  obtain ⟨v',w',hr,h2⟩:=zE7 (P:=P) w t tI o.type e z by0 ht hI hinfo hby hzc hz1 v L n xs h hn0 hn hL
  unfold Oper.wp execOp
  simp only [ho,resolve,invoke,builtin,Sem.run_bind,Sem.run_pure,Result.andThen_ok,List.map_toArray,List.map_cons,List.map_nil,hs,hx,hr]
  exact hk v' w' h2
theorem Tryz.infoSF:(Tryz.prog.info? 23).map (fun i=>(i.zero,i.size,i.bytes))=some (some (.slice none 0 0),1,24):=by kernel_rfl
def pgV:Option (Nat × Nat)→Value
  | none=>.slice none 0 0
  | some (b,cp)=>.slice (some ⟨b,0,none⟩) 32 cp
def rowV (a:Nat→Value) (L:Nat):List Value:=(List.range L).map a
theorem zAt (a:Nat→Value) (L:Nat):(rowV a L).length=L:=by simp [rowV]
theorem zBm (a:Nat→Value) (L j:Nat) (h:j<L):(rowV a L)[j]?=some (a j):=by
  unfold rowV; rw [List.getElem?_map,List.getElem?_range h]; rfl
theorem zNq {a b:Nat→Value} {L:Nat} (h:∀ j,j<L→a j=b j):rowV a L=rowV b L:=List.map_congr_left fun j hj=>h j (List.mem_range.1 hj)
theorem zTv (a:Nat→Value) (L j:Nat) (v:Value):(rowV a L).set j v=rowV (fun i=>if i=j then v else a i) L:=by
  apply List.ext_getElem?
  intro i
  rw [List.getElem?_set]
  by_cases hi:i<L
  · rw [zBm _ _ _ hi]
    by_cases hij:j=i
    · subst hij; rw [if_pos rfl,if_pos (by rw [zAt]; exact hi),zBm _ _ _ hi,if_pos rfl]
    · rw [if_neg hij,zBm _ _ _ hi,if_neg (fun e=>hij e.symm)]
  · rw [List.getElem?_eq_none (l:=rowV (fun i=>if i=j then v else a i) L) (by rw [zAt]; omega)]
    by_cases hij:j=i
    · subst hij; rw [if_pos rfl,if_neg (by rw [zAt]; exact hi)]
    · rw [if_neg hij,List.getElem?_eq_none (by rw [zAt]; omega)]
theorem zRd (a:Nat→Value) (n k:Nat) (z:Value):rowV a n++List.replicate k z=rowV (fun j=>if j<n then a j else z) (n+k):=by
  apply List.ext_getElem?
  intro i
  by_cases h1:i<n
  · rw [List.getElem?_append_left (by rw [zAt]; exact h1),zBm _ _ _ h1,zBm _ _ _ (by omega),if_pos h1]
  · rw [List.getElem?_append_right (by rw [zAt]; omega),zAt]
    by_cases h2:i<n+k
    · rw [List.getElem?_replicate,if_pos (by omega),zBm _ _ _ h2,if_neg h1]
    · rw [List.getElem?_replicate,if_neg (by omega),List.getElem?_eq_none (by rw [zAt]; omega)]
def upd (q:Int→Option (Nat × Nat)) (x:Int) (z:Option (Nat × Nat)):Int→Option (Nat × Nat):=fun y=>if y=x then z else q y
def PS (w:World) (p:Nat) (bufv:Value) (tr:Int) (pgs:Value) (mp:Int):Prop :=
  w.heap[p]?=some (.cells #[bufv,.int .i64 tr,pgs,.int .i64 mp,.int .i64 5,.int .i64 31] 131 (0,0))
section
variable {w w':World} {p:Nat} {bufv pgs:Value} {tr mp:Int}
theorem PS.cells (h:PS w p bufv tr pgs mp):w.cell? ⟨p,0,none⟩=some bufv∧w.cell? ⟨p,1,none⟩=some (.int .i64 tr)∧w.cell? ⟨p,2,none⟩=some pgs∧w.cell? ⟨p,3,none⟩=some (.int .i64 mp)∧w.cell? ⟨p,4,none⟩=some (.int .i64 5)∧w.cell? ⟨p,5,none⟩=some (.int .i64 31) :=
  ⟨cell_of_row _ _ 0 _ _ _ h,cell_of_row _ _ 1 _ _ _ h,cell_of_row _ _ 2 _ _ _ h,cell_of_row _ _ 3 _ _ _ h,cell_of_row _ _ 4 _ _ _ h,cell_of_row _ _ 5 _ _ _ h⟩
theorem PS.free (h:PS w p bufv tr pgs mp) (i:Nat):w.frozen? ⟨p,i,none⟩=false:=frozen_of_row w p i _ _ h
theorem PS.lt (h:PS w p bufv tr pgs mp):p<w.heap.size:=lt_of_block h
theorem PS.fr {S:Nat→Prop} (h:PS w p bufv tr pgs mp) (hf:Fr S w w') (hp:¬ S p):PS w' p bufv tr pgs mp:=hf.heap h hp
theorem PS.set0 (h:PS w p bufv tr pgs mp) (v:Value):PS (w.setCell ⟨p,0,none⟩ v) p v tr pgs mp:=(heap_setCell_same w p 0 _ _ v h).trans rfl
theorem PS.set2 (h:PS w p bufv tr pgs mp) (v:Value):PS (w.setCell ⟨p,2,none⟩ v) p bufv tr v mp:=(heap_setCell_same w p 2 _ _ v h).trans rfl
theorem PS.set3 (h:PS w p bufv tr pgs mp) (m:Int):PS (w.setCell ⟨p,3,none⟩ (.int .i64 m)) p bufv tr pgs m:=(heap_setCell_same w p 3 _ _ _ h).trans rfl
theorem PS.other (h:PS w p bufv tr pgs mp) {a:Addr} (ha:a.block≠p) (v:Value):PS (w.setCell a v) p bufv tr pgs mp:=(Below.heap_setCell _ _ _ _ (fun e=>ha e.symm)).trans h
end
structure zA6 (tg:Int) (G:Int→Nat) (bs:List Int) (q:Int→Option (Nat × Nat)) (a:Nat→Value) (mp:Int) (n p:Nat) (bufv pgs:Value) (w:World):Prop where
  fields:PS w p bufv tg pgs mp
  buf:w.ownsRow 0 3 1 bufv bs.length (bs.map (Value.int .i64))
  row:w.ownsRow 0 23 1 pgs n (rowV a n)
  page:∀ x b cp,q x=some (b,cp)→Row w b 32 cp (fun k=>G (32*x+k))
  zero:∀ x,q x=none→∀ k,0≤k→k<32→G (32*x+k)=0
  inj:∀ x y b cp cp',q x=some (b,cp)→q y=some (b,cp')→x=y
structure zAH (tg:Int) (G:Int→Nat) (bs:List Int) (q:Int→Option (Nat × Nat)) (mp:Int) (n p:Nat) (bufv pgs:Value) (w:World):Prop where
  core:zA6 tg G bs q (fun j=>pgV (q (mp+(j:Int)))) mp n p bufv pgs w
  inside:∀ x b cp,q x=some (b,cp)→mp≤x∧x<mp+n ∧ -320≤x∧x≤320
  bd:(n=0∧mp=9223372036854775807∧pgs = .slice none 0 0)∨(0<n ∧ -330≤mp∧mp+n≤330)
def zAS (q:Int→Option (Nat × Nat)) (p:Nat) (bufv pgs:Value) (k:Nat):Prop:=k=p∨bufv.ownBlock=some k∨pgs.ownBlock=some k∨∃ x cp,q x=some (k,cp)
theorem zAW {w:World} {e:TypeId} {v:Value} {n:Nat} {xs:List Value} (h:w.ownsRow 0 e 1 v n xs) {k:Nat} (hk:v.ownBlock=some k):∃ cur,w.heap[k]?=some (.cells cur e (0,0)):=by
  rcases h.2 with ⟨rfl,_⟩ | ⟨g,cap,cur,rfl,_,hg,_⟩
  · simp [Value.ownBlock] at hk
  · cases hk; exact ⟨cur,hg⟩
theorem zAr {w:World} {a b:Nat} {c1 c2:Array Value} {t1 t2:TypeId} {f1 f2:Nat × Nat} (h1:w.heap[a]?=some (.cells c1 t1 f1)) (h2:w.heap[b]?=some (.cells c2 t2 f2)) (h:t1≠t2):a≠b:=by
  intro e; subst e
  rw [h1] at h2
  cases h2
  exact h rfl
section
variable {G:Int→Nat} {bs:List Int} {q:Int→Option (Nat × Nat)} {a:Nat→Value} {mp:Int} {n p:Nat} {bufv pgs:Value} {w w':World}
theorem zA6.drewN (h:zA6 tg G bs q a mp n p bufv pgs w) (k:Nat):zA6 tg G bs q a mp n p bufv pgs (w.drewN k):=⟨h.fields,h.buf,h.row,h.page,h.zero,h.inj⟩
theorem zA6.drew (h:zA6 tg G bs q a mp n p bufv pgs w):zA6 tg G bs q a mp n p bufv pgs w.drew:=⟨h.fields,h.buf,h.row,h.page,h.zero,h.inj⟩
theorem zA6.ext {a':Nat→Value} (h:zA6 tg G bs q a mp n p bufv pgs w) (he:∀ j,j<n→a j=a' j):zA6 tg G bs q a' mp n p bufv pgs w:=⟨h.fields,h.buf,by rw [← zNq he]; exact h.row,h.page,h.zero,h.inj⟩
theorem zA6.grown (h:zA6 tg G bs q a mp n p bufv pgs w) (hg:w.grownBy w' none):zA6 tg G bs q a mp n p bufv pgs w' :=
  ⟨(hg.block p h.fields.lt (by simp)).trans h.fields,h.buf.kept hg (Classical.em _),h.row.kept hg (Classical.em _),
    fun x b cp hq=>World.ownsRow.kept (h.page x b cp hq) hg (.inr (by simp [Value.ownBlock])),h.zero,h.inj⟩
theorem zA6.setMp (h:zA6 tg G bs q a mp n p bufv pgs w) (m:Int):zA6 tg G bs q a m n p bufv pgs (w.setCell ⟨p,3,none⟩ (.int .i64 m)):=by
  refine ⟨h.fields.set3 m,ownsRow_setCell_other h.buf (fun e=>?_) _,ownsRow_setCell_other h.row (fun e=>?_) _,fun x b cp hx=>?_,h.zero,h.inj⟩
  · obtain ⟨_,hc⟩:=zAW h.buf e; exact zAr hc h.fields (by decide) rfl
  · obtain ⟨_,hc⟩:=zAW h.row e; exact zAr hc h.fields (by decide) rfl
  · obtain ⟨_,hc,_⟩:=(h.page x b cp hx).block
    exact (h.page x b cp hx).other (fun e=>zAr hc h.fields (by decide) e.symm) _
theorem zA6.setPage {g c0:Nat} (h:zA6 tg G bs q a mp n p bufv (.slice (some ⟨g,0,none⟩) n c0) w) (j:Nat) (v:Value):zA6 tg G bs q (fun i=>if i=j then v else a i) mp n p bufv (.slice (some ⟨g,0,none⟩) n c0) (w.setCell ⟨g,j,none⟩ v):=by
  obtain ⟨curg,hcg⟩:=zAW h.row (k:=g) rfl
  refine ⟨h.fields.other (zAr hcg h.fields (by decide)) _,ownsRow_setCell_other h.buf (fun e=>?_) _,by rw [← zTv]; exact (h.row.stored j v).1,fun x b cp hx=>?_,h.zero,h.inj⟩
  · obtain ⟨_,hc⟩:=zAW h.buf e; exact zAr hc hcg (by decide) rfl
  · obtain ⟨_,hc,_⟩:=(h.page x b cp hx).block
    exact (h.page x b cp hx).other (fun e=>zAr hc hcg (by decide) e.symm) _
theorem zA6.after {k:Nat} {v':Value} {w1:World} (h:zA6 tg G bs q a mp n p bufv pgs w) (hg:zNe 23 w pgs n k (rowV a n) (.slice none 0 0) v' w1):PS w1 p bufv tg pgs mp:=by
  obtain ⟨g',cp',rfl,hrow,hgr,hb⟩:=hg
  have hpp:pgs.ownBlock≠some p:=fun e=>by obtain ⟨_,hc⟩:=zAW h.row e; exact zAr hc h.fields (by decide) rfl
  exact (hgr.block p h.fields.lt (fun e=>hpp e.symm)).trans h.fields
theorem zA6.longer {k:Nat} {v':Value} {w1:World} (h:zA6 tg G bs q a mp n p bufv pgs w) (hg:zNe 23 w pgs n k (rowV a n) (.slice none 0 0) v' w1) :
    zA6 tg G bs q (fun j=>if j<n then a j else .slice none 0 0) mp (n+k) p bufv v' (w1.setCell ⟨p,2,none⟩ v'):=by
  obtain ⟨g',cp',rfl,hrow,hgr,hb⟩:=hg
  have hlt:∀ j,j<w.heap.size→pgs.ownBlock≠some j→w1.heap[j]?=w.heap[j]?:=fun j hj hne=>hgr.block j hj (fun e=>hne e.symm)
  have hpp:pgs.ownBlock≠some p:=fun e=>by obtain ⟨_,hc⟩:=zAW h.row e; exact zAr hc h.fields (by decide) rfl
  have hf1:PS w1 p bufv tg pgs mp:=(hlt p h.fields.lt hpp).trans h.fields
  have hbp:bufv.ownBlock≠some p:=fun e=>by obtain ⟨_,hc⟩:=zAW h.buf e; exact zAr hc h.fields (by decide) rfl
  obtain ⟨curg,hcg⟩:=zAW hrow (k:=g') rfl
  refine ⟨hf1.set2 _,ownsRow_setCell_other (h.buf.kept hgr ?_) hbp _,?_,fun x b cp hx=>?_,h.zero,h.inj⟩
  · cases e:bufv.ownBlock with
    | none=>exact .inl rfl
    | some b =>
      right
      intro e2
      obtain ⟨_,hc⟩:=zAW h.buf e
      obtain ⟨_,hc2⟩:=zAW h.row e2.symm
      exact zAr hc hc2 (by decide) rfl
  · have h2:(w1.setCell ⟨p,2,none⟩ (.slice (some ⟨g',0,none⟩) (n+k) cp')).ownsRow 0 23 1 (.slice (some ⟨g',0,none⟩) (n+k) cp') (n+k) (rowV a n++List.replicate k (.slice none 0 0)):=ownsRow_setCell_other hrow (fun e=>by cases e; exact zAr hcg hf1 (by decide) rfl) _
    rw [zRd] at h2
    exact h2
  · obtain ⟨_,hc,_⟩:=(h.page x b cp hx).block
    have h2:Row w1 b 32 cp (fun k=>G (32*x+k)):=World.ownsRow.kept (h.page x b cp hx) hgr (.inr (fun e=>by
      obtain ⟨_,hc2⟩:=zAW h.row e.symm
      exact zAr hc hc2 (by decide) rfl))
    exact h2.other (fun e=>zAr hc h.fields (by decide) e.symm) _
end
theorem zNe.fr {e:TypeId} {w w1:World} {v v':Value} {L n:Nat} {xs:List Value} {z:Value} (h:zNe e w v L n xs z v' w1):Fr (fun k=>v.ownBlock=some k) w w1∧(∀ k,v'.ownBlock=some k→v.ownBlock=some k∨k=w.heap.size):=by
  obtain ⟨g',cp',rfl,hrow,hgr,hb⟩:=h
  refine ⟨⟨hgr.os,hgr.tape,hgr.output,hgr.size,fun k hk hn=>hgr.block k hk (fun e=>hn e.symm)⟩,fun k hk=>?_⟩
  cases hk
  exact hb
theorem zAH.drewN {G:Int→Nat} {bs:List Int} {q:Int→Option (Nat × Nat)} {mp:Int} {n p:Nat} {bufv pgs:Value} {w:World} (h:zAH tg G bs q mp n p bufv pgs w) (k:Nat):zAH tg G bs q mp n p bufv pgs (w.drewN k):=⟨h.core.drewN k,h.inside,h.bd⟩
theorem zAH.grown {G:Int→Nat} {bs:List Int} {q:Int→Option (Nat × Nat)} {mp:Int} {n p:Nat} {bufv pgs:Value} {w w':World} (h:zAH tg G bs q mp n p bufv pgs w) (hg:w.grownBy w' none):zAH tg G bs q mp n p bufv pgs w':=⟨h.core.grown hg,h.inside,h.bd⟩
end Go.Proofs.YtllaekopaglolaaGreat
end
/-
  The store with pages: its small functions; a new one.
-/
section
namespace Go.Proofs.YtllaekopaglolaaGreat
open Go.RowKit
variable {tg:Int}
set_option maxRecDepth 100000 in
theorem zCB (p:Nat) (x:Int) (w:World) (h4:w.cell? ⟨p,4,none⟩=some (.int .i64 5)) :
    Calls Tryz.prog 264 #[.pointer (some ⟨p,0,none⟩),.int .i64 x] w fun e w'=>e = .returned (.int .i64 (x / 32))∧w=w':=by
  go_enter Tryz.func264,Tryz.ntmps264
  go_wp2
  go_ret
  exact ⟨rfl,rfl⟩
set_option maxRecDepth 100000 in
theorem zDk (p:Nat) (x:Int) (w:World) (h5:w.cell? ⟨p,5,none⟩=some (.int .i64 31)) :
    Calls Tryz.prog 265 #[.pointer (some ⟨p,0,none⟩),.int .i64 x] w fun e w'=>e = .returned (.int .i64 (x % 32))∧w=w':=by
  have hb:=zXK x
  go_enter Tryz.func265,Tryz.ntmps265
  go_wp2
  go_ret
  exact ⟨rfl,rfl⟩
set_option maxRecDepth 100000 in
theorem zSe (p:Nat) (x y:Int) (w:World) (h4:w.cell? ⟨p,4,none⟩=some (.int .i64 5)) (x1:-100000≤x) (x2:x≤100000) (y1:0≤y) (y2:y≤100) :
    Calls Tryz.prog 268 #[.pointer (some ⟨p,0,none⟩),.int .i64 x,.int .i64 y] w fun e w'=>e = .returned (.int .i64 (32*x+y))∧w=w':=by
  have i1:IntKind.i64.wrap (x*32)=32*x:=by rw [IntKind.wrap_i64]; omega
  have i2:IntKind.i64.wrap (32*x+y)=32*x+y:=by rw [IntKind.wrap_i64]; omega
  clear x1 x2 y1 y2
  go_enter Tryz.func268,Tryz.ntmps268
  go_wp2
  go_ret
  exact ⟨rfl,rfl⟩
set_option maxRecDepth 100000 in
theorem zCt (s:Value) (r:Nat) (hr:r<10000) (w:World) :
    Calls Tryz.prog 272 #[s,.int .i64 r] w fun e w'=>e = .returned (.int .i64 (((r+7) / 8*8:Nat):Int))∧w=w':=by
  have hb:=zXJ (r+7) (by omega)
  rw [show ((r+7:Nat):Int)=(r:Int)+7 from by omega] at hb
  obtain ⟨z,hz⟩:∃ z,z=(r+7) / 8*8:=⟨_,rfl⟩
  rw [← hz] at hb ⊢
  have i1:IntKind.i64.wrap ((r:Int)+8)=(r:Int)+8:=by rw [IntKind.wrap_i64]; omega
  have i2:IntKind.i64.wrap ((r:Int)+8 - 1)=(r:Int)+7:=by rw [IntKind.wrap_i64]; omega
  clear hz hr
  go_enter Tryz.func272,Tryz.ntmps272
  go_wp2
  go_ret
  exact ⟨rfl,rfl⟩
set_option maxRecDepth 100000 in
theorem zUE (w:World):Calls Tryz.prog 56 #[] w fun e w'=>∃ p bufv,e = .returned (.pointer (some ⟨p,0,none⟩)) ∧
    zAH 64 (fun _=>0) [] (fun _=>none) 9223372036854775807 0 p bufv (.slice none 0 0) w'∧(∀ k,zAS (fun _=>none) p bufv (.slice none 0 0) k→w.heap.size≤k)∧Fr (fun _=>False) w w':=by
  have infoI:(Tryz.prog.info? 3).map (fun i=>(i.zero,i.size,i.bytes))=some (some (.int .i64 0),1,8):=by kernel_rfl
  obtain ⟨i0,hi,hz0,hz1,hz2⟩:=info_parts infoI
  have hmk:=run_make (P:=Tryz.prog) w 128 3 i0 (.int .i64 0) Tryz.underlying128 hi hz0 .i64 .i64 0 4 (by decide) (by decide) (by rw [hz2]; decide) (by decide)
  rw [hz1,show ((4:Int).toNat)=4 from rfl,show ((0:Int).toNat)=0 from rfl] at hmk
  obtain ⟨cs,hcs⟩:∃ cs,cs=madeCells (Value.int .i64 0).cells (4*1):=⟨_,rfl⟩
  rw [← hcs] at hmk
  have hsz:cs.size=4*1:=by rw [hcs]; exact size_madeCells _ _
  clear hi hz0 hz1 hz2 infoI hcs
  go_enter Tryz.func56,Tryz.ntmps56
  go_wp2
  go_ret
  have hp:PS ((w.alloc (.cells cs 3)).alloc (.cells #[.slice (some ⟨w.heap.size,0,none⟩) 0 4,.int .i64 64,.slice none 0 0,.int .i64 9223372036854775807,.int .i64 5,.int .i64 31] 131)) (w.heap.size+1) (.slice (some ⟨w.heap.size,0,none⟩) 0 4) 64 (.slice none 0 0) 9223372036854775807:=by
    have h:=heap_alloc_new (w.alloc (.cells cs 3)) (.cells #[.slice (some ⟨w.heap.size,0,none⟩) 0 4,.int .i64 64,.slice none 0 0,.int .i64 9223372036854775807,.int .i64 5,.int .i64 31] 131)
    rw [show (w.alloc (.cells cs 3)).heap.size=w.heap.size+1 from by simp] at h
    exact h
  refine ⟨w.heap.size+1,_,rfl,⟨⟨hp,(World.ownsRow_made w cs 4 (Nat.zero_le _) (by unfold maxLen; omega) hsz).alloc _,World.ownsRow_nil _ _ _ _,(fun x b cp h=>by cases h),(fun _ _ _ _ _=>rfl),(fun x y b cp cp' h=>by cases h)⟩,(fun x b cp h=>by cases h),.inl ⟨rfl,rfl,rfl⟩⟩,fun k hk=>?_,((Fr.refl _ w).alloc _).alloc _⟩
  rcases hk with h | h | h | ⟨x,cp,h⟩
  · omega
  · cases h; exact Nat.le_refl _
  · simp [Value.ownBlock] at h
  · cases h
end Go.Proofs.YtllaekopaglolaaGreat
end
