/-
  Plain laws on worlds,no program in sight: 'Fr S w w'': outside the blocks S the world w' is as w was,and no block has gone; 'Buf': a variable that holds a slice of bytes which owns its row.
-/
import Derived.WalkKit
import Derived.WalkSpells
import Derived.WalkLawsBesides
import Derived.Lib.Hide
import Derived.Laws.BytesArg
import Derived.Test.YtllaekopaglolaaGreatProg
import Derived.Laws.FloatArith
section
namespace Go.Proofs.YtllaekopaglolaaGreat
open Go.RowKit
@[go_sem] theorem zO4 (P:Program) (w:World) (a:Addr) (m:Mode) (b:Nat):(store a (.float .f64 b) m).run P w=stored P w a (.float .f64 b) m:=run_store P w a _ m rfl
structure Fr (S:Nat→Prop) (w w':World):Prop where
  os:w'.os=w.os
  tape:w'.tape=w.tape
  output:w'.output=w.output
  size:w.heap.size≤w'.heap.size
  block:∀ k,k<w.heap.size→¬ S k→w'.heap[k]?=w.heap[k]?
section
variable {S T U:Nat→Prop} {a b c w w':World}
theorem Fr.refl (S:Nat→Prop) (w:World):Fr S w w:=⟨rfl,rfl,rfl,Nat.le_refl _,fun _ _ _=>rfl⟩
theorem Fr.trans (h:Fr S a b) (k:Fr T b c) (hS:∀ i,i<a.heap.size→S i→U i) (hT:∀ i,i<a.heap.size→T i→U i):Fr U a c :=
  ⟨k.os.trans h.os,k.tape.trans h.tape,k.output.trans h.output,Nat.le_trans h.size k.size,
   fun i hi hn=>(k.block i (Nat.lt_of_lt_of_le hi h.size) (fun ht=>hn (hT i hi ht))).trans (h.block i hi (fun hs=>hn (hS i hi hs)))⟩
theorem Fr.mono (h:Fr S a b) (hS:∀ i,i<a.heap.size→S i→U i):Fr U a b :=
  h.trans (Fr.refl S b) hS hS
theorem Fr.alloc (h:Fr S a b) (o:Obj):Fr S a (b.alloc o) :=
  ⟨h.os,h.tape,h.output,by have:=h.size; simp; omega,fun i hi hn=>(Below.heap_alloc _ _ _ (Nat.lt_of_lt_of_le hi h.size)).trans (h.block i hi hn)⟩
theorem Fr.drew (h:Fr S a b):Fr S a b.drew:=⟨h.os,h.tape,h.output,h.size,h.block⟩
theorem Fr.drewN (h:Fr S a b) (n:Nat):Fr S a (b.drewN n):=⟨h.os,h.tape,h.output,h.size,h.block⟩
theorem Fr.setCell (h:Fr S a b) {p:Addr} (hp:p.block<a.heap.size→S p.block) (u:Value):Fr S a (b.setCell p u) :=
  ⟨h.os,h.tape,h.output,by have:=h.size; simp [World.setCell]; omega,
   fun i hi hn=>(Below.heap_setCell _ _ _ _ (fun e=>hn (by subst e; exact hp hi))).trans (h.block i hi hn)⟩
theorem Fr.grown {row:Option Nat} (h:Fr S a b) (hg:b.grownBy c row) (hr:∀ k,row=some k→k<a.heap.size→S k):Fr S a c :=
  ⟨hg.os.trans h.os,hg.tape.trans h.tape,hg.output.trans h.output,Nat.le_trans h.size hg.size,
   fun i hi hn=>(hg.block i (Nat.lt_of_lt_of_le hi h.size) (fun e=>hn (hr i e.symm hi))).trans (h.block i hi hn)⟩
theorem Fr.below {B:Nat} (h:Fr S w w') (hS:∀ k,S k→B≤k) (hB:B≤w.heap.size):Below B w w' :=
  ⟨h.os,h.tape,h.output,h.size,fun k hk=>h.block k (by omega) (fun hs=>by have:=hS k hs; omega)⟩
theorem Fr.of_below {B:Nat} (h:Below B w w'):Fr (fun k=>B≤k) w w' :=
  ⟨h.os,h.tape,h.output,h.size,fun k _ hn=>h.block k (by omega)⟩
theorem Fr.cell (h:Fr S w w') {p:Addr} {v:Value} (hc:w.cell? p=some v) (hp:¬ S p.block):w'.cell? p=some v :=
  (World.cell?_of_block (h.block p.block (World.block_lt_of_cell? w p hc) hp)).trans hc
theorem Fr.heap (h:Fr S w w') {k:Nat} {o:Obj} (hc:w.heap[k]?=some o) (hp:¬ S k):w'.heap[k]?=some o :=
  (h.block k (lt_of_block hc) hp).trans hc
theorem Fr.owns {base:Nat} {e:TypeId} {size:Nat} {v:Value} {n:Nat} {xs:List Value} (h:Fr S w w') (hw:w.ownsRow base e size v n xs) (hp:∀ k,v.ownBlock=some k→¬ S k):w'.ownsRow base e size v n xs:=by
  obtain ⟨h1,h2⟩:=hw
  refine ⟨h1,?_⟩
  rcases h2 with h2 | ⟨g,cap,cur,hv,hg,hh,r⟩
  · exact Or.inl h2
  · subst hv
    exact Or.inr ⟨g,cap,cur,rfl,hg,h.heap hh (hp g rfl),r⟩
end
section
variable {P:Program} (w:World)
theorem zGx (t ty e:TypeId) (i:TypeInfo) (z:Value) (size bytes:Nat) (ht:P.underlying t=some (.slice e)) (hi:P.info? e=some i) (hz:i.zero=some z)
    (hsize:i.size=size) (hby:i.bytes=bytes) (hzs:z.cells.size=size) (hsz:0<size)
    (v:Value) (n:Nat) (xs:List Value) (hown:w.ownsRow 0 e size v n xs)
    (a:Addr) (m c:Nat) (news:List Value) (hl:news.length=m*size) (hnews:∀ j u,news[j]?=some u→w.cell? (a.add j)=some u) (h1:∀ u∈news,u.oneCell'=true)
    (h63:n+m≤maxLen) (hbytes:(n+m)*bytes≤140737488355328) :
    ∃ v' w',(Builtin.append_ #[t,t] ty #[v,.slice (some a) m c]).run P w = .ok v' w'∧w'.ownsRow 0 e size v' (n+m) (xs++news)∧w.grownBy w' v.ownBlock ∧
      (v'.ownBlock=v.ownBlock∨v'.ownBlock=some w.heap.size):=by
  obtain ⟨v',w',hr,ho,hg,_⟩:=run_append_own (P:=P) w 0 t ty e i z size bytes ht hi hz hsize hby hzs hsz v n xs hown a m c news hl hnews h1 h63 hbytes (Nat.zero_le _)
  refine ⟨v',w',hr,ho,hg,?_⟩
  have h63':n+m≤9223372036854775807:=by simp only [maxLen] at h63; omega
  subst hsize
  subst hby
  rcases hown.2 with ⟨rfl,rfl⟩ | ⟨g,cap,cur,rfl,hbg,hgg,hnc,hcm,hcs,htake⟩
  · by_cases hm:m=0
    · subst hm
      have hn:news=[]:=List.eq_nil_of_length_eq_zero (by simpa using hl)
      subst hn
      have hr2:(Builtin.append_ #[t,t] ty #[.slice none 0 0,.slice (some a) 0 c]).run P w = .ok (.slice none 0 0) w:=by
        simp [Builtin.append_,run_underlying ht,sizeOf,typeInfo,hi,Builtin.lenOf,Builtin.firstCells,loadCells,loadCellsFrom]
      rw [hr2] at hr
      cases hr
      exact .inl rfl
    · have hr2:=run_append_nil (P:=P) w t ty e i z ht hi hz a m c news hl hnews (by omega) (by omega) (by have hb:=hbytes; simp only [Nat.zero_add] at hb; omega)
      rw [hr2] at hr
      cases hr
      exact .inr rfl
  · by_cases hroom:n+m≤cap
    · have hfit:n*i.size+news.length≤cur.size:=by rw [hl,hcs,← Nat.add_mul]; exact Nat.mul_le_mul_right _ hroom
      have hr2:=run_append_room (P:=P) w t ty e i ht hi g n cap cur hgg a m c news hl hnews h1 hroom hfit
      rw [hr2] at hr
      cases hr
      exact .inl rfl
    · have holds:∀ j u,xs[j]?=some u→w.cell? ((⟨g,0,none⟩:Addr).add j)=some u:=hown.cells (g:=g) rfl
      have hr2:=run_append_grow (P:=P) w t ty e i z ht hi hz ⟨g,0,none⟩ n cap xs hown.1 holds a m c news hl hnews (by omega) (by omega) (growslice_fits (by omega) hbytes)
      rw [hr2] at hr
      cases hr
      exact .inr rfl
theorem zBI {o:Oper} {a:Act} {K:Act→World→Prop} {Q:Exit→Act→World→Prop} (s x:Operand) (t:TypeId)
    (ho:o.op = .call { callee:=.builtin .append,args:=#[s,x],argTypes:=#[t,t] })
    (e:TypeId) (i:TypeInfo) (z:Value) (size bytes:Nat) (ht:P.underlying t=some (.slice e)) (hi:P.info? e=some i) (hz:i.zero=some z)
    (hsize:i.size=size) (hby:i.bytes=bytes) (hzs:z.cells.size=size) (hsz:0<size)
    (v:Value) (n:Nat) (xs:List Value) (hs:a.eval s=v) (hown:w.ownsRow 0 e size v n xs)
    (ad:Addr) (m c:Nat) (news:List Value) (hx:a.eval x = .slice (some ad) m c) (hl:news.length=m*size) (hnews:∀ j u,news[j]?=some u→w.cell? (ad.add j)=some u) (h1:∀ u∈news,u.oneCell'=true)
    (h63:n+m≤maxLen) (hbytes:(n+m)*bytes≤140737488355328)
    (h:∀ v' w',w'.ownsRow 0 e size v' (n+m) (xs++news)→w.grownBy w' v.ownBlock→(v'.ownBlock=v.ownBlock∨v'.ownBlock=some w.heap.size)→K (a.put o.dst v') w'):o.wp P a w K Q:=by
  obtain ⟨v',w',hr,h2,h3,h4⟩:=zGx (P:=P) w t o.type e i z size bytes ht hi hz hsize hby hzs hsz v n xs hown ad m c news hl hnews h1 h63 hbytes
  unfold Oper.wp execOp
  simp only [ho,resolve,invoke,builtin,Sem.run_bind,Sem.run_pure,Result.andThen_ok,List.map_toArray,List.map_cons,List.map_nil,hs,hx,hr]
  exact h v' w' h2 h3 h4
theorem zAi {ops:Array Oper} {rest:List Oper} {o:Oper} {a:Act} {Q:Exit→Act→World→Prop} (hgd:o.guard=none) (s x:Operand) (t:TypeId)
    (ho:o.op = .call { callee:=.builtin .append,args:=#[s,x],argTypes:=#[t,t] })
    (e:TypeId) (i:TypeInfo) (z:Value) (size bytes:Nat) (ht:P.underlying t=some (.slice e)) (hi:P.info? e=some i) (hz:i.zero=some z)
    (hsize:i.size=size) (hby:i.bytes=bytes) (hzs:z.cells.size=size) (hsz:0<size)
    (v:Value) (n:Nat) (xs:List Value) (hs:a.eval s=v) (hown:w.ownsRow 0 e size v n xs)
    (ad:Addr) (m c:Nat) (news:List Value) (hx:a.eval x = .slice (some ad) m c) (hl:news.length=m*size) (hnews:∀ j u,news[j]?=some u→w.cell? (ad.add j)=some u) (h1:∀ u∈news,u.oneCell'=true)
    (h63:n+m≤maxLen) (hbytes:(n+m)*bytes≤140737488355328)
    (h:∀ v' w',w'.ownsRow 0 e size v' (n+m) (xs++news)→w.grownBy w' v.ownBlock→(v'.ownBlock=v.ownBlock∨v'.ownBlock=some w.heap.size)→wpList P ops Q rest (a.put o.dst v') w'):wpList P ops Q (o :: rest) a w :=
  wpList_plain hgd fun _ hK=>zBI w s x t ho e i z size bytes ht hi hz hsize hby hzs hsz v n xs hs hown ad m c news hx hl hnews h1 h63 hbytes fun v' w' h2 h3 h4=>hK _ _ (h v' w' h2 h3 h4)
end
def cu8 (xs:List Nat):List Value:=xs.map fun (x:Nat)=>Value.int .u8 (x:Int)
theorem zQz (xs ys:List Nat):cu8 (xs++ys)=cu8 xs++cu8 ys:=by simp [cu8]
def Buf (tS tE:TypeId) (w:World) (p:Nat) (r:Option Nat) (xs:List Nat):Prop :=
  ∃ s,w.heap[p]?=some (.cells #[s] tS (0,0))∧w.ownsRow 0 tE 1 s xs.length (cu8 xs)∧s.ownBlock=r
def zCd (tS tE:TypeId) (w w':World) (p:Nat) (r:Option Nat) (ys:List Nat):Prop :=
  ∃ r',Buf tS tE w' p r' ys∧Fr (fun k=>k=p∨r=some k) w w'∧(r'=r∨∃ k,r'=some k∧w.heap.size≤k)
theorem zCd.start {tS tE:TypeId} {w:World} {p:Nat} {r:Option Nat} {xs:List Nat} (h:Buf tS tE w p r xs):zCd tS tE w w p r xs :=
  ⟨r,h,Fr.refl _ _,.inl rfl⟩
theorem zCd.trans {tS tE:TypeId} {a b c:World} {p:Nat} {r:Option Nat} {ys zs:List Nat} (h:zCd tS tE a b p r ys)
    (k:∀ r',Buf tS tE b p r' ys→zCd tS tE b c p r' zs):zCd tS tE a c p r zs:=by
  obtain ⟨r1,h1,h2,h3⟩:=h
  obtain ⟨r2,k1,k2,k3⟩:=k r1 h1
  refine ⟨r2,k1,h2.trans k2 (fun _ _ x=>x) ?_,?_⟩
  · intro i hi hx
    rcases hx with hx | hx
    · exact .inl hx
    · rcases h3 with h3 | ⟨j,h3,hj⟩
      · exact .inr (h3 ▸ hx)
      · rw [h3] at hx; cases hx; omega
  · rcases k3 with k3 | ⟨j,k3,hj⟩
    · rw [k3]; exact h3
    · exact .inr ⟨j,k3,Nat.le_trans h2.size hj⟩
theorem zHt {tS tE:TypeId} (hne:tS≠tE) {w w1:World} {p:Nat} {r:Option Nat} {xs ys:List Nat} {s v':Value} {o:Obj}
    (hcell:w.heap[p]?=some (.cells #[s] tS (0,0))) (hown:w.ownsRow 0 tE 1 s xs.length (cu8 xs)) (hr:s.ownBlock=r)
    (hown':w1.ownsRow 0 tE 1 v' (xs.length+ys.length) (cu8 xs++cu8 ys)) (hg:(w.alloc o).grownBy w1 s.ownBlock) (hv:v'.ownBlock=s.ownBlock∨∃ k,v'.ownBlock=some k∧w.heap.size≤k) :
    zCd tS tE w (w1.setCell ⟨p,0,none⟩ v') p r (xs++ys):=by
  have hp:p<w.heap.size:=lt_of_block hcell
  have hpr:s.ownBlock≠some p:=by
    intro e
    rcases hown.2 with ⟨rfl,_⟩ | ⟨g,cap,cur,rfl,_,hh,_⟩
    · simp [Value.ownBlock] at e
    · simp [Value.ownBlock] at e
      subst e
      rw [hh] at hcell
      simp only [Option.some.injEq,Obj.cells.injEq] at hcell
      exact hne hcell.2.1.symm
  have hf:Fr (fun k=>k=p∨r=some k) w w1:=by
    refine ((Fr.refl _ w).alloc o).grown hg ?_
    intro k hk _
    exact .inr (by rw [← hr]; exact hk)
  have hc1:w1.heap[p]?=some (.cells #[s] tS (0,0)):=by
    rw [hg.block p (by simp; omega) (fun e=>hpr e.symm),Below.heap_alloc _ _ _ hp]; exact hcell
  have hpv:v'.ownBlock≠some p:=by
    rcases hv with hv | ⟨k,hv,hk⟩
    · rw [hv]; exact hpr
    · rw [hv]; intro e; cases e; omega
  refine ⟨v'.ownBlock,⟨v',one_setCell hc1,?_,rfl⟩,hf.setCell (fun _=>.inl rfl) _,?_⟩
  · rw [zQz,List.length_append]
    exact ownsRow_setCell_other hown' hpv _
  · rcases hv with hv | hv
    · exact .inl (hv.trans hr)
    · exact .inr hv
theorem zTI {tS tE:TypeId} (hne:tS≠tE) {w:World} {p n:Nat} {xs:List Value} {s:Value}
    (hcell:w.heap[p]?=some (.cells #[s] tS (0,0))) (hown:w.ownsRow 0 tE 1 s n xs):s.ownBlock≠some p:=by
  intro e
  rcases hown.2 with ⟨rfl,_⟩ | ⟨g,cap,cur,rfl,_,hh,_⟩
  · simp [Value.ownBlock] at e
  · simp [Value.ownBlock] at e
    subst e
    rw [hh] at hcell
    simp only [Option.some.injEq,Obj.cells.injEq] at hcell
    exact hne hcell.2.1.symm
theorem zC0 {tS tE:TypeId} (hne:tS≠tE) {w w1:World} {p n:Nat} {xs:List Value} {s:Value} {o:Obj}
    (hcell:w.heap[p]?=some (.cells #[s] tS (0,0))) (hown:w.ownsRow 0 tE 1 s n xs) (hg:(w.alloc o).grownBy w1 s.ownBlock):w1.heap[p]?=some (.cells #[s] tS (0,0)):=by
  have hp:p<w.heap.size:=lt_of_block hcell
  rw [hg.block p (by simp; omega) (fun e=>zTI hne hcell hown e.symm),Below.heap_alloc _ _ _ hp]; exact hcell
theorem zHS {tS tE:TypeId} (hne:tS≠tE) {w wr w1:World} {p:Nat} {r r':Option Nat} {xs ys:List Nat} {s v':Value} {o:Obj}
    (hcell:wr.heap[p]?=some (.cells #[s] tS (0,0))) (hown:wr.ownsRow 0 tE 1 s xs.length (cu8 xs)) (_hr:s.ownBlock=r')
    (hfr:Fr (fun k=>k=p∨r=some k) w wr) (hr':r'=r∨∃ k,r'=some k∧w.heap.size≤k)
    (hown':w1.ownsRow 0 tE 1 v' (xs.length+ys.length) (cu8 xs++cu8 ys)) (hg:(wr.alloc o).grownBy w1 s.ownBlock) (hv:v'.ownBlock=s.ownBlock∨v'.ownBlock=some (wr.heap.size+1)) :
    zCd tS tE w (w1.setCell ⟨p,0,none⟩ v') p r (xs++ys):=by
  have h:=zHt hne hcell hown rfl hown' hg (hv.imp id fun h=>⟨_,h,Nat.le_succ _⟩)
  refine zCd.trans (⟨s.ownBlock,⟨s,hcell,hown,rfl⟩,hfr,by rw [_hr]; exact hr'⟩:zCd tS tE w wr p r xs) ?_
  intro r'' hb
  obtain ⟨s',hc',_,hr''⟩:=hb
  rw [hcell] at hc'
  cases hc'
  rw [← hr'']
  exact h
theorem zAR {w:World} {base:Nat} {e:TypeId} {size:Nat} {v:Value} {n:Nat} {xs:List Value} (h:w.ownsRow base e size v n xs):∃ ao n' c,v = .slice ao n' c:=by
  rcases h.2 with ⟨rfl,_⟩ | ⟨g,cap,cur,rfl,_⟩
  · exact ⟨_,_,_,rfl⟩
  · exact ⟨_,_,_,rfl⟩
def str (xs:List Nat):ByteArray:=strOfNums (xs.map fun (x:Nat)=>(x:Int))
theorem zEk {P:Program} (tS tE tStr:TypeId) (hs:P.underlying tS=some (.slice tE)) (he:P.underlying tE=some (.int .u8)) (hd:P.underlying tStr=some .string)
    {w:World} {base:Nat} {v:Value} {n:Nat} {xs:List Nat} (h:w.ownsRow base tE 1 v n (cu8 xs)):(convert tS tStr v).run P w = .ok (.string (str xs)) w:=by
  have hl:xs.length=n:=by have:=h.1; simpa [cu8] using this
  rcases h.2 with ⟨rfl,rfl⟩ | ⟨g,cap,cur,rfl,_⟩
  · have:xs=[]:=List.eq_nil_of_length_eq_zero hl
    subst this
    exact run_convert_bytes_nil w tS tE hs he _ _ tStr hd
  · refine run_convert_bytes_arg w tS tE hs he g 0 n cap (xs.map fun (x:Nat)=>(x:Int)) (by simpa using hl) ?_ tStr hd
    intro i hi
    have hc:=h.cells (g:=g) rfl i (.int .u8 (xs.getD i 0)) (by simp [cu8,List.getD,List.getElem?_eq_getElem (show i<xs.length by omega)])
    have hadd:(⟨g,0,none⟩:Addr).add i=⟨g,0+i,none⟩:=by unfold Addr.add; split <;> simp_all
    rw [hadd] at hc
    rw [hc]
    simp [List.getD,List.getElem?_eq_getElem (show i<xs.length by omega)]
theorem zAo {w:World} {base:Nat} {e:TypeId} {size:Nat} {ao:Option Addr} {n' cp n:Nat} {xs:List Value} (h:w.ownsRow base e size (.slice ao n' cp) n xs):n'=n:=by
  rcases h.2 with ⟨h1,h2⟩ | ⟨g,cap,cur,h1,_⟩
  · cases h1; exact h2.symm
  · cases h1; rfl
section
variable {P:Program}
theorem zAV (w:World) (u:Value) {ops:Array Oper} {rest:List Oper} {o:Oper} {a:Act} {Q:Exit→Act→World→Prop} (hgd:o.guard=none) (s x:Operand) (tS tE:TypeId)
    (ho:o.op = .call { callee:=.builtin .append,args:=#[s,x],argTypes:=#[tS,tS] })
    (z:Value) (bytes:Nat) (ht:P.underlying tS=some (.slice tE)) (hinfo:(P.info? tE).map (fun i=>(i.zero,i.size,i.bytes))=some (some z,1,bytes)) (hz:z.cells.size=1) (hu:u.oneCell'=true)
    (v:Value) (n:Nat) (xs:List Value) (hs:a.eval s=v) (hown:w.ownsRow 0 tE 1 v n xs) (hx:a.eval x = .slice (some ⟨w.heap.size,0,none⟩) 1 1) (hn:n<1000000000000) (hby:bytes≤32)
    (h:∀ ao cp w1,w1.ownsRow 0 tE 1 (.slice ao (n+1) cp) (n+1) (xs++[u])→(w.alloc (.cells #[u] tE)).grownBy w1 v.ownBlock →
      ((Value.slice ao (n+1) cp).ownBlock=v.ownBlock∨(Value.slice ao (n+1) cp).ownBlock=some (w.heap.size+1))→wpList P ops Q rest (a.put o.dst (.slice ao (n+1) cp)) w1):wpList P ops Q (o :: rest) a (w.alloc (.cells #[u] tE)):=by
  obtain ⟨i0,hi,hz0,hz1,hz2⟩:=info_parts hinfo
  refine zAi _ hgd s x tS ho tE i0 z 1 bytes ht hi hz0 hz1 hz2 hz (by decide) v n xs hs (hown.alloc _) ⟨w.heap.size,0,none⟩ 1 1 [u] hx rfl (cell_one_new _ _ _) ?_ ?_ ?_ ?_
  · intro u' hu'; simp at hu'; subst hu'; exact hu
  · unfold maxLen; omega
  · have:(n+1)*bytes≤(n+1)*32:=Nat.mul_le_mul_left _ hby
    omega
  · intro v' w1 h1 h2 h3
    obtain ⟨ao,n1,cp,rfl⟩:=zAR h1
    obtain rfl:=zAo h1
    exact h ao cp w1 h1 h2 (by simpa using h3)
end
def OwnB (tE:TypeId) (w w':World) (v:Value) (xs:List Nat):Prop :=
  (w'.ownsRow 0 tE 1 v xs.length (cu8 xs)∧∀ k,v.ownBlock=some k→w.heap.size≤k)∧Below w.heap.size w w'
theorem zCU {P:Program} (t e:TypeId) (ht:P.underlying t=some (.slice e)) (ao:Option Addr) (n c m:Nat) (h:Int) (h0:h=(m:Int)) (h1:m≤c) {z:Nat} (hz:∀ w,(sizeOf e).run P w = .ok z w) (w:World) :
    (Instr.slice t (.slice ao n c) none (some (.int .i64 h)) none).run P w = .ok (.slice ao m c) w:=by
  subst h0
  have hh:(m:Int)≤(c:Int):=by omega
  simp [Instr.slice,run_underlying ht,Instr.sliceBounds,go_sem,hh,hz]
end Go.Proofs.YtllaekopaglolaaGreat
end
/-
  Float64bits and Float64frombits; the bytes of a number with a fraction,plainly.
-/
section
namespace Go.Proofs.YtllaekopaglolaaGreat
open Go.RowKit
theorem Tryz.bits64 (b:Nat) (w:World):(callFunc 100 #[.float .f64 b]).run Tryz.prog w = .ok (.value (.int .u64 b)) w:=by
  rw [run_callFunc_extern Tryz.func100 (by kernel_rfl) (by kernel_rfl) (by kernel_rfl) (e:=Extern.MathFloatBits.float64bits) (by kernel_rfl)]
  rfl
theorem Tryz.frombits64 (n:Int) (w:World):(callFunc 79 #[.int .u64 n]).run Tryz.prog w = .ok (.value (.float .f64 n.toNat)) w:=by
  rw [run_callFunc_extern Tryz.func79 (by kernel_rfl) (by kernel_rfl) (by kernel_rfl) (e:=Extern.MathFloatBits.float64frombits) (by kernel_rfl)]
  rfl
theorem zAY (n:Nat):IntKind.u64.wrap (n:Int)=((n % 18446744073709551616:Nat):Int):=by rw [IntKind.wrap_u64]; omega
end Go.Proofs.YtllaekopaglolaaGreat
end
/-
  The twins of Float64bits and Float64frombits.
-/
section
namespace Go.Proofs.YtllaekopaglolaaGreat
open Go.RowKit
set_option maxRecDepth 100000 in
theorem zAv (b:Nat) (w:World) :
    Calls Tryz.prog 88 #[.float .f64 b] w fun e w'=>e = .returned (.int .u64 b)∧w=w':=by
  have hb:=Tryz.bits64
  go_enter Tryz.func88,Tryz.ntmps88
  go_wp2
  go_ret
  exact ⟨rfl,rfl⟩
set_option maxRecDepth 100000 in
theorem zAZ (n:Int) (w:World) :
    Calls Tryz.prog 66 #[.int .u64 n] w fun e w'=>e = .returned (.float .f64 n.toNat)∧w=w':=by
  have hb:=Tryz.frombits64
  go_enter Tryz.func66,Tryz.ntmps66
  go_wp2
  go_ret
  exact ⟨rfl,rfl⟩
end Go.Proofs.YtllaekopaglolaaGreat
end
/-
  Floats,the small ones: Abs,IsNaN,IsInf,Inf,normalize,Frexp,Ldexp,Copysign: what they hand back,as plain functions of the bits.
-/
section
namespace Go.Proofs.YtllaekopaglolaaGreat
open Go.RowKit
def fadd (x y:Nat):Option Nat:=floatBits .add .f64 x y
def fsub (x y:Nat):Option Nat:=floatBits .sub .f64 x y
def fmul (x y:Nat):Option Nat:=floatBits .mul .f64 x y
def fdiv (x y:Nat):Option Nat:=floatBits .quo .f64 x y
def flt (x y:Nat):Bool:=FloatKind.f64.format.order x y == some .lt
def fgt (x y:Nat):Bool:=FloatKind.f64.format.order x y == some .gt
def fle (x y:Nat):Bool:=FloatKind.f64.format.order x y == some .lt||FloatKind.f64.format.order x y == some .eq
def fge (x y:Nat):Bool:=FloatKind.f64.format.order x y == some .gt||FloatKind.f64.format.order x y == some .eq
def feq (x y:Nat):Bool:=FloatKind.f64.format.order x y == some .eq
def zA7 (x:Nat):Bool:=FloatKind.f64.format.order x x == some .eq
def absF (x:Nat):Nat:=(bits .andNot .u64 (x:Int) 9223372036854775808).toNat
theorem zDp (x:Nat) (hx:x<18446744073709551616):absF x=x % 9223372036854775808:=by
  unfold absF
  have h:=u64_andNot_nat x 9223372036854775808 hx (by decide)
  rw [show ((9223372036854775808:Nat):Int)=9223372036854775808 from rfl] at h
  rw [h,show 18446744073709551615 - 9223372036854775808=2^63 - 1 from by decide,Nat.and_two_pow_sub_one_eq_mod]
  rfl
set_option maxRecDepth 100000 in
theorem zDI (x:Nat) (w:World):Calls Tryz.prog 80 #[.float .f64 x] w fun e w'=>e = .returned (.float .f64 (absF x))∧w=w':=by
  obtain ⟨y,hy,hz⟩:∃ y:Int,bits .andNot .u64 (x:Int) 9223372036854775808=y∧Hid (absF x=y.toNat):=⟨_,rfl,rfl⟩
  rw [hz.out]
  go_enter Tryz.func80,Tryz.ntmps80
  go_wp2_with (first | (go_at_call 88; refine (zAv x w).mono ?_; rintro e w' ⟨rfl,rfl⟩) | (go_at_call 66; refine (zAZ y w).mono ?_; rintro e w' ⟨rfl,rfl⟩))
  go_ret
  exact ⟨rfl,rfl⟩
set_option maxRecDepth 100000 in
theorem zAb (x:Nat) (w:World) (h:zA7 x=true):Calls Tryz.prog 67 #[.float .f64 x] w fun e w'=>e = .returned (.bool false)∧w=w':=by
  have h':FloatKind.f64.format.order x x=some .eq:=by simpa [zA7] using h
  clear h
  go_enter Tryz.func67,Tryz.ntmps67
  go_wp2
  go_ret
  exact ⟨rfl,rfl⟩
def zED (x:Nat):Bool:=!(fgt (absF x) 9218868437227405311)
set_option maxRecDepth 100000 in
theorem zBt (x:Nat) (w:World) (h:zED x=true):Calls Tryz.prog 68 #[.float .f64 x,.int .i64 0] w fun e w'=>e = .returned (.bool false)∧w=w':=by
  have h':(FloatKind.f64.format.order (absF x) 9218868437227405311 == some .gt)=false:=by simpa [zED,fgt] using h
  clear h
  have HA:=fun w=>zDI x w
  revert h' HA
  generalize absF x=y
  intro h' HA
  go_enter Tryz.func68,Tryz.ntmps68
  go_wp2_with (go_at_call 80; refine (HA w).mono ?_; rintro e w' ⟨rfl,rfl⟩)
  go_ret
  exact ⟨rfl,rfl⟩
set_option maxRecDepth 100000 in
theorem zBh (x:Nat) (w:World) (h:fgt x 9218868437227405311=false):Calls Tryz.prog 68 #[.float .f64 x,.int .i64 1] w fun e w'=>e = .returned (.bool false)∧w=w':=by
  have h':(FloatKind.f64.format.order x 9218868437227405311 == some .gt)=false:=h
  clear h
  go_enter Tryz.func68,Tryz.ntmps68
  go_wp2
  go_ret
  exact ⟨rfl,rfl⟩
set_option maxRecDepth 100000 in
theorem zSd (w:World):Calls Tryz.prog 75 #[.int .i64 1] w fun e w'=>e = .returned (.float .f64 9218868437227405312)∧w=w':=by
  go_enter Tryz.func75,Tryz.ntmps75
  go_wp2_with (go_at_call 66; refine (zAZ 9218868437227405312 w).mono ?_; rintro e w' ⟨rfl,rfl⟩)
  go_ret
  exact ⟨rfl,rfl⟩
set_option maxRecDepth 100000 in
theorem zFH (x:Nat) (w:World) (h:flt (absF x) 4503599627370496=false):Calls Tryz.prog 108 #[.float .f64 x] w fun e w'=>e = .returned (.tuple #[.float .f64 x,.int .i64 0])∧w=w':=by
  have h':(FloatKind.f64.format.order (absF x) 4503599627370496 == some .lt)=false:=h
  clear h
  have HA:=fun w=>zDI x w
  revert h' HA
  generalize absF x=y
  intro h' HA
  go_enter Tryz.func108,Tryz.ntmps108
  go_wp2_with (go_at_call 80; refine (HA w).mono ?_; rintro e w' ⟨rfl,rfl⟩)
  go_ret2
  exact ⟨rfl,rfl⟩
def zEF (x:Nat):Option (Nat × Int) :=
  if feq x 0=false∧zA7 x=true∧zED x=true∧flt (absF x) 4503599627370496=false then
    some ((bits .or .u64 (bits .andNot .u64 (x:Int) 9218868437227405312) 4602678819172646912).toNat,wrap64 (wrap64 (wrap64 (wrap64 (bits .and .u64 ((x:Int) / 4503599627370496) 2047) - 1023)+1)))
  else none
set_option maxRecDepth 100000 in
theorem zEE (x f:Nat) (k:Int) (w:World) (h:zEF x=some (f,k)):Calls Tryz.prog 97 #[.float .f64 x] w fun e w'=>e = .returned (.tuple #[.float .f64 f,.int .i64 k])∧w=w':=by
  unfold zEF at h
  split at h
  · rename_i hc
    obtain ⟨h0,h1,h2,h3⟩:=hc
    simp only [Option.some.injEq,Prod.mk.injEq] at h
    obtain ⟨hf,hk⟩:=h
    have h0':(FloatKind.f64.format.order x 0 == some .eq)=false:=h0
    have HN:=fun w=>zAb x w h1
    have HI:=fun w=>zBt x w h2
    have HZ:=fun w=>zFH x w h3
    clear h0 h1 h2 h3
    have HX:∀ w,Calls Tryz.prog 105 #[.float .f64 x] w fun e w'=>e = .returned (.tuple #[.float .f64 f,.int .i64 k])∧w=w':=by
      intro w
      go_enter Tryz.func105,Tryz.ntmps105
      go_wp2_with (first | (go_at_call 68; refine (HI w).mono ?_; rintro e w' ⟨rfl,rfl⟩) | (go_at_call 67; refine (HN w).mono ?_; rintro e w' ⟨rfl,rfl⟩) | (go_at_call 108; refine (HZ w).mono ?_; rintro e w' ⟨rfl,rfl⟩) | (go_at_call 88; refine (zAv x w).mono ?_; rintro e w' ⟨rfl,rfl⟩) | (go_at_call 66; refine (zAZ _ w).mono ?_; rintro e w' ⟨rfl,rfl⟩))
      go_ret2
      subst hf hk
      exact ⟨rfl,rfl⟩
    clear HN HI HZ h0' hf hk
    go_enter Tryz.func97,Tryz.ntmps97
    go_wp2_with (go_at_call 105; refine (HX w).mono ?_; rintro e w' ⟨rfl,rfl⟩)
    go_ret2
    exact ⟨rfl,rfl⟩
  · cases h
def zDW (x y:Nat):Nat:=(bits .or .u64 (bits .andNot .u64 (x:Int) 9223372036854775808) (bits .and .u64 (y:Int) 9223372036854775808)).toNat
set_option maxRecDepth 100000 in
theorem zGR (x y:Nat) (w:World):Calls Tryz.prog 104 #[.float .f64 x,.float .f64 y] w fun e w'=>e = .returned (.float .f64 (zDW x y))∧w=w':=by
  go_enter Tryz.func104,Tryz.ntmps104
  go_wp2_with (first | (go_at_call 88; refine (zAv _ w).mono ?_; rintro e w' ⟨rfl,rfl⟩) | (go_at_call 66; refine (zAZ _ w).mono ?_; rintro e w' ⟨rfl,rfl⟩))
  go_ret
  exact ⟨rfl,rfl⟩
def zE1 (x:Nat):Nat :=
  if flt (absF x) 4607182418800017408=true then zDW 0 x
  else if IntKind.u64.wrap (bits .and .u64 ((x:Int) / 4503599627370496) 2047 - 1023)<52 then
    (bits .andNot .u64 (x:Int) (IntKind.u64.wrap (IntKind.u64.wrap (2^min (IntKind.u64.wrap (52 - IntKind.u64.wrap (bits .and .u64 ((x:Int) / 4503599627370496) 2047 - 1023))).toNat 64) - 1))).toNat
  else x
set_option maxRecDepth 100000 in
theorem zRL (x:Nat) (w:World):Calls Tryz.prog 103 #[.float .f64 x] w fun e w'=>e = .returned (.float .f64 (zE1 x))∧w=w':=by
  have HX:∀ w,Calls Tryz.prog 107 #[.float .f64 x] w fun e w'=>e = .returned (.float .f64 (zE1 x))∧w=w':=by
    intro w
    unfold zE1
    cases h:flt (absF x) 4607182418800017408
    · have h':(FloatKind.f64.format.order (absF x) 4607182418800017408 == some .lt)=false:=h
      by_cases h2:IntKind.u64.wrap (bits .and .u64 ((x:Int) / 4503599627370496) 2047 - 1023)<52
      · rw [if_neg (by decide),if_pos h2]
        go_enter Tryz.func107,Tryz.ntmps107
        go_wp2_with (first | (go_at_call 80; refine (zDI x w).mono ?_; rintro e w' ⟨rfl,rfl⟩) | (go_at_call 88; refine (zAv _ w).mono ?_; rintro e w' ⟨rfl,rfl⟩) | (go_at_call 66; refine (zAZ _ w).mono ?_; rintro e w' ⟨rfl,rfl⟩))
        go_ret
        exact ⟨rfl,rfl⟩
      · rw [if_neg (by decide),if_neg h2]
        go_enter Tryz.func107,Tryz.ntmps107
        go_wp2_with (first | (go_at_call 80; refine (zDI x w).mono ?_; rintro e w' ⟨rfl,rfl⟩) | (go_at_call 88; refine (zAv _ w).mono ?_; rintro e w' ⟨rfl,rfl⟩) | (go_at_call 66; refine (zAZ _ w).mono ?_; rintro e w' ⟨rfl,rfl⟩))
        go_ret
        exact ⟨rfl,rfl⟩
    · have h':(FloatKind.f64.format.order (absF x) 4607182418800017408 == some .lt)=true:=h
      rw [if_pos rfl]
      go_enter Tryz.func107,Tryz.ntmps107
      go_wp2_with (first | (go_at_call 80; refine (zDI x w).mono ?_; rintro e w' ⟨rfl,rfl⟩) | (go_at_call 104; refine (zGR 0 x w).mono ?_; rintro e w' ⟨rfl,rfl⟩))
      go_ret
      exact ⟨rfl,rfl⟩
  go_enter Tryz.func103,Tryz.ntmps103
  go_wp2_with (go_at_call 107; refine (HX w).mono ?_; rintro e w' ⟨rfl,rfl⟩)
  go_ret
  exact ⟨rfl,rfl⟩
def zIk (x:Nat):Option (Nat × Nat):=(fsub x (zE1 x)).map fun d=>(zE1 x,zDW d x)
set_option maxRecDepth 100000 in
theorem zFK (x a b:Nat) (w:World) (h:zIk x=some (a,b)):Calls Tryz.prog 96 #[.float .f64 x] w fun e w'=>e = .returned (.tuple #[.float .f64 a,.float .f64 b])∧w=w':=by
  unfold zIk at h
  obtain ⟨d,hd,he⟩:=Option.map_eq_some_iff.1 h
  simp only [Prod.mk.injEq] at he
  obtain ⟨ha,hb⟩:=he
  have HT:=fun w=>zRL x w
  have HC:=fun w=>zGR d x w
  rw [ha] at HT hd
  rw [hb] at HC
  have hs:=fun w:World=>run_float_arith (P:=Tryz.prog) w .sub 29 .f64 x a d hd
  clear h ha hb hd
  go_enter Tryz.func96,Tryz.ntmps96
  go_wp2_with (first | (go_at_call 103; refine (HT w).mono ?_; rintro e w' ⟨rfl,rfl⟩) | (go_at_call 104; refine (HC w).mono ?_; rintro e w' ⟨rfl,rfl⟩))
  go_ret2
  exact ⟨rfl,rfl⟩
end Go.Proofs.YtllaekopaglolaaGreat
end
