/-
  Slices of items (a value and a count,two cells each),plainly: what such a slice reads as; an append of one item.
-/
import Derived.Test.YtllaekopaglolaaGreatHBE
import Derived.Test.YtllaekopaglolaaGreatHAR
import Derived.Test.YtllaekopaglolaaGreatProg
section
namespace Go.Proofs.YtllaekopaglolaaGreat
open Go.RowKit
def qc:List (Nat × Nat)→List Value
  | []=>[]
  | p :: t=>.float .f64 p.1 :: .float .f64 p.2 :: qc t
theorem zBC (ps:List (Nat × Nat)):(qc ps).length=ps.length*2:=by
  induction ps with
  | nil=>rfl
  | cons p t ih=>simp [qc,ih]; omega
theorem zBr (ps qs:List (Nat × Nat)):qc (ps++qs)=qc ps++qc qs:=by
  induction ps with
  | nil=>rfl
  | cons p t ih=>simp [qc,ih]
theorem zVp (ps:List (Nat × Nat)):∀ n,qc (ps.take n)=(qc ps).take (n*2):=by
  induction ps with
  | nil=>intro n; simp [qc]
  | cons p t ih =>
    intro n
    cases n with
    | zero=>simp [qc]
    | succ n=>simp [qc,ih,Nat.add_mul]
theorem zFC (ps:List (Nat × Nat)):∀ u∈qc ps,u.oneCell'=true:=by
  induction ps with
  | nil=>intro u h; cases h
  | cons p t ih =>
    intro u h
    rcases List.mem_cons.1 h with rfl | h
    · rfl
    · rcases List.mem_cons.1 h with rfl | h
      · rfl
      · exact ih u h
theorem zId (ps:List (Nat × Nat)):∀ i,(h:i<ps.length)→(qc ps)[i*2]?=some (.float .f64 ps[i].1):=by
  induction ps with
  | nil=>intro i h; cases h
  | cons p t ih =>
    intro i h
    cases i with
    | zero=>rfl
    | succ i=>rw [show (i+1)*2=i*2+1+1 from by omega]; simpa [qc] using ih i (by simpa using h)
theorem zIc (ps:List (Nat × Nat)):∀ i,(h:i<ps.length)→(qc ps)[i*2+1]?=some (.float .f64 ps[i].2):=by
  induction ps with
  | nil=>intro i h; cases h
  | cons p t ih =>
    intro i h
    cases i with
    | zero=>rfl
    | succ i=>rw [show (i+1)*2+1=i*2+1+1+1 from by omega]; simpa [qc] using ih i (by simpa using h)
def LieR (w:World) (ao:Option Addr) (ps:List (Nat × Nat)):Prop :=
  ps=[]∨∃ g off,ao=some ⟨g,off,none⟩∧∀ i,(h:i<ps.length)→w.cell? ⟨g,off+i*2,none⟩=some (.float .f64 ps[i].1)∧w.cell? ⟨g,off+i*2+1,none⟩=some (.float .f64 ps[i].2)
theorem LieR.later {w w':World} {ao:Option Addr} {ps:List (Nat × Nat)} (h:LieR w ao ps) (hb:Below w.heap.size w w'):LieR w' ao ps:=by
  rcases h with h | ⟨g,off,rfl,h⟩
  · exact .inl h
  · refine .inr ⟨g,off,rfl,fun i hi=>?_⟩
    obtain ⟨h0,h1⟩:=h i hi
    exact ⟨(hb.cell (World.block_lt_of_cell? w _ h0)).trans h0,(hb.cell (World.block_lt_of_cell? w _ h1)).trans h1⟩
def OwnQ (e:TypeId) (w w':World) (v:Value) (ps:List (Nat × Nat)):Prop :=
  (w'.ownsRow 0 e 2 v ps.length (qc ps)∧∀ k,v.ownBlock=some k→w.heap.size≤k)∧Below w.heap.size w w'
theorem OwnQ.nil (e:TypeId) (w:World):OwnQ e w w (.slice none 0 0) [] :=
  ⟨⟨World.ownsRow_nil _ _ _ _,fun k h=>by simp [Value.ownBlock] at h⟩,Below.refl _ _⟩
theorem zBR {e:TypeId} {w:World} {ao:Option Addr} {n' c n:Nat} {ps:List (Nat × Nat)} (h:w.ownsRow 0 e 2 (.slice ao n' c) n (qc ps)):n'=ps.length∧n'≤c∧c≤maxLen∧LieR w ao ps:=by
  have hl:ps.length=n:=by have:=h.1; rw [zBC] at this; omega
  rcases h.2 with ⟨h1,h2⟩ | ⟨g,cap,cur,h1,_,hh,hc,hm,_⟩
  · cases h1
    have:ps=[]:=List.eq_nil_of_length_eq_zero (by omega)
    exact ⟨by omega,Nat.le_refl _,Nat.zero_le _,.inl this⟩
  · cases h1
    refine ⟨hl.symm,hc,hm,.inr ⟨g,0,rfl,fun i hi=>?_⟩⟩
    have hadd:∀ j,(⟨g,0,none⟩:Addr).add j=⟨g,0+j,none⟩:=fun j=>by unfold Addr.add; split <;> simp_all
    have a0:=h.cells (g:=g) rfl (i*2) _ (zId ps i hi)
    have a1:=h.cells (g:=g) rfl (i*2+1) _ (zIc ps i hi)
    rw [hadd] at a0 a1
    exact ⟨a0,a1⟩
section
variable {P:Program}
theorem zE0 (w:World) (B:Nat) (hB:w.heap.size=B) (i:Nat) (b:Nat) {ops:Array Oper} {rest:List Oper} {o:Oper} {a:Act} {Q:Exit→Act→World→Prop} (hgd:o.guard=none) (s x:Operand) (tS tE:TypeId)
    (ho:o.op = .call { callee:=.builtin .append,args:=#[s,x],argTypes:=#[tS,tS] })
    (z:Value) (bytes:Nat) (ht:P.underlying tS=some (.slice tE)) (hinfo:(P.info? tE).map (fun i=>(i.zero,i.size,i.bytes))=some (some z,2,bytes)) (hz:z.cells.size=2)
    (v:Value) (n:Nat) (ps:List (Nat × Nat)) (hs:a.eval s=v) (hown:w.ownsRow 0 tE 2 v n (qc ps)) (hx:a.eval x = .slice (some ⟨B,0,none⟩) 1 1) (hn:n<1000000000000) (hby:bytes≤32)
    (h:∀ ao cp w1,w1.ownsRow 0 tE 2 (.slice ao (n+1) cp) (n+1) (qc (ps++[(i,b)]))→(w.alloc (.cells #[.float .f64 i,.float .f64 b] tE)).grownBy w1 v.ownBlock →
      ((Value.slice ao (n+1) cp).ownBlock=v.ownBlock∨(Value.slice ao (n+1) cp).ownBlock=some (B+1))→wpList P ops Q rest (a.put o.dst (.slice ao (n+1) cp)) w1):wpList P ops Q (o :: rest) a (w.alloc (.cells #[.float .f64 i,.float .f64 b] tE)):=by
  subst hB
  obtain ⟨i0,hi,hz0,hz1,hz2⟩:=info_parts hinfo
  have hnew:∀ j u,(qc [(i,b)])[j]?=some u→(w.alloc (.cells #[.float .f64 i,.float .f64 b] tE)).cell? ((⟨w.heap.size,0,none⟩:Addr).add j)=some u:=by
    intro j u hj
    have hadd:(⟨w.heap.size,0,none⟩:Addr).add j=⟨w.heap.size,0+j,none⟩:=by unfold Addr.add; split <;> simp_all
    rw [hadd,cell_of_row _ _ _ _ _ _ (heap_alloc_new w (.cells #[.float .f64 i,.float .f64 b] tE))]
    simpa [qc] using hj
  refine zAi _ hgd s x tS ho tE i0 z 2 bytes ht hi hz0 hz1 hz2 hz (by decide) v n (qc ps) hs (hown.alloc _) ⟨w.heap.size,0,none⟩ 1 1 (qc [(i,b)]) hx rfl hnew (zFC _) ?_ ?_ ?_
  · unfold maxLen; omega
  · have:(n+1)*bytes≤(n+1)*32:=Nat.mul_le_mul_left _ hby
    omega
  · intro v' w1 h1 h2 h3
    rw [← zBr] at h1
    obtain ⟨ao,n1,cp,rfl⟩:=zAR h1
    obtain rfl:=zAo h1
    exact h ao cp w1 h1 h2 (by simpa using h3)
end
theorem OwnQ.step {e:TypeId} {w wr w1:World} {v v':Value} {ps:List (Nat × Nat)} {i:Nat} {b:Nat} {o:Obj} (h:OwnQ e w wr v ps)
    (hown':w1.ownsRow 0 e 2 v' (ps.length+1) (qc (ps++[(i,b)]))) (hg:(wr.alloc o).grownBy w1 v.ownBlock) (hv:v'.ownBlock=v.ownBlock∨v'.ownBlock=some (wr.heap.size+1)) :
    OwnQ e w w1 v' (ps++[(i,b)]):=by
  have hz:=h.2.size
  refine ⟨⟨by simpa using hown',?_⟩,(h.2.alloc hz _).grown hg (by simp; omega) h.1.2⟩
  intro k hk
  rcases hv with hv | hv
  · exact h.1.2 k (hv ▸ hk)
  · rw [hv] at hk; cases hk; omega
theorem OwnQ.step2 {e:TypeId} {w wr w1:World} {v v':Value} {ps:List (Nat × Nat)} {i:Nat} {b:Nat} {o1 o2:Obj} (h:OwnQ e w wr v ps)
    (hown':w1.ownsRow 0 e 2 v' (ps.length+1) (qc (ps++[(i,b)]))) (hg:((wr.alloc o1).alloc o2).grownBy w1 v.ownBlock) (hv:v'.ownBlock=v.ownBlock∨v'.ownBlock=some (wr.heap.size+1+1)) :
    OwnQ e w w1 v' (ps++[(i,b)]):=by
  have hz:=h.2.size
  refine ⟨⟨by simpa using hown',?_⟩,((h.2.alloc hz _).alloc (by simp; omega) _).grown hg (by simp; omega) h.1.2⟩
  intro k hk
  rcases hv with hv | hv
  · exact h.1.2 k (hv ▸ hk)
  · rw [hv] at hk; cases hk; omega
def fi (xs:Items):List (Nat × Nat):=xs.map fun p=>(p.1,nf p.2)
theorem zAK (xs:Items):(fi xs).length=xs.length:=by simp [fi]
theorem zDU (xs ys:Items):fi (xs++ys)=fi xs++fi ys:=by simp [fi]
theorem zWA (xs:Items) (n:Nat):fi (xs.take n)=(fi xs).take n:=by simp [fi,List.map_take]
theorem zEg (xs:Items) (k:Nat) (h:k<(fi xs).length):(fi xs)[k]=(xs[k]'(by simpa [fi] using h) |>.1,nf (xs[k]'(by simpa [fi] using h)).2):=by simp [fi]
theorem zST {w:World} {ao:Option Addr} {xs:Items} (h:LieR w ao (fi xs)):LieQ w ao xs:=by
  rcases h with h | ⟨g,off,h,hc⟩
  · left; exact List.eq_nil_of_length_eq_zero (by rw [← zAK,h]; rfl)
  · refine .inr ⟨g,off,h,fun i hi=>?_⟩
    have:=hc i (by rw [zAK]; exact hi)
    rwa [zEg] at this
theorem zDN {e:TypeId} {w:World} {ao:Option Addr} {n' c n:Nat} {ps:List (Nat × Nat)} (h:w.ownsRow 0 e 2 (.slice ao n' c) n (qc ps)) (h0:0<ps.length) :
    ∃ g,ao=some ⟨g,0,none⟩∧(∀ i,(h:i<ps.length)→w.cell? ⟨g,i*2,none⟩=some (.float .f64 ps[i].1)∧w.cell? ⟨g,i*2+1,none⟩=some (.float .f64 ps[i].2))∧∀ j,w.frozen? ⟨g,j,none⟩=false:=by
  obtain ⟨_,_,_,hl⟩:=zBR h
  rcases h.2 with ⟨h1,h2⟩ | ⟨g,cap,cur,h1,_,hh,_⟩
  · have:=h.1; rw [zBC] at this; omega
  · cases h1
    refine ⟨g,rfl,?_,fun j=>frozen_of_row w g j cur _ hh⟩
    rcases hl with h | ⟨g',off,h,hc⟩
    · rw [h] at h0; simp at h0
    · cases h; intro i hi; have:=hc i hi; rwa [Nat.zero_add] at this
theorem zOQ (w:World) (x:Nat) (b:Nat) (t:TypeId):∀ j u,(qc [(x,b)])[j]?=some u→((w.alloc (.cells #[.float .f64 x,.float .f64 b] t)).drew).cell? ((⟨w.heap.size,0,none⟩:Addr).add j)=some u:=by
  intro j u hj
  have hadd:(⟨w.heap.size,0,none⟩:Addr).add j=⟨w.heap.size,0+j,none⟩:=by unfold Addr.add; split <;> simp_all
  rw [hadd]
  show (w.alloc (.cells #[.float .f64 x,.float .f64 b] t)).cell? _=_
  rw [cell_of_row _ _ _ _ _ _ (heap_alloc_new w (.cells #[.float .f64 x,.float .f64 b] t))]
  simpa [qc] using hj
theorem zDA {e:TypeId} {w:World} {ao:Option Addr} {n c m:Nat} {L:Items} (h:w.ownsRow 0 e 2 (.slice ao n c) n (qc (fi L))) (hm:m≤n):w.ownsRow 0 e 2 (.slice ao m c) m (qc (fi (L.take m))):=by
  obtain ⟨h1,h2⟩:=h
  rw [zBC,zAK] at h1
  have hl:(qc (fi (L.take m))).length=m*2:=by rw [zBC,zAK,List.length_take]; omega
  refine ⟨hl,?_⟩
  rcases h2 with ⟨h2,h3⟩ | ⟨g,cap,cur,h2,hb,hg,hn,hcm,hs,ht⟩
  · cases h2
    have:m=0:=by omega
    subst this
    exact .inl ⟨rfl,rfl⟩
  · cases h2
    refine .inr ⟨g,c,cur,rfl,hb,hg,by omega,hcm,hs,?_⟩
    rw [zWA,zVp,← ht,List.take_take]
    congr 1
    omega
theorem zFO {e:TypeId} {w W w1 w2:World} {v v2:Value} {n':Nat} {ps:List (Nat × Nat)} (hb:Below w.heap.size w W) (h1:Below W.heap.size W w1) (hv:∀ k,v.ownBlock=some k→w.heap.size≤k)
   (hown:w2.ownsRow 0 e 2 v2 n' (qc ps)) (hn:n'=ps.length) (hg:w1.grownBy w2 v.ownBlock) (hk:v2.ownBlock=v.ownBlock∨v2.ownBlock=some w1.heap.size):OwnQ e w w2 v2 ps:=by
  subst hn
  have hz:=hb.size
  have hz1:=h1.size
  refine ⟨⟨hown,?_⟩,((hb.trans (h1.mono hz)).grown hg (by omega) hv)⟩
  intro k h
  rcases hk with hk | hk
  · exact hv k (hk ▸ h)
  · rw [hk] at h; cases h; omega
theorem zH2 {w:World} {e:TypeId} {g n c m:Nat} {L:Items} (h:w.ownsRow 0 e 2 (.slice (some ⟨g,0,none⟩) n c) n (qc (fi L))):∀ j u,(qc (fi (L.drop m)))[j]?=some u→w.cell? ((⟨g,m*2,none⟩:Addr).add j)=some u:=by
  intro j u hj
  have hadd:∀ a j,(⟨g,a,none⟩:Addr).add j=⟨g,a+j,none⟩:=fun a j=>by unfold Addr.add; split <;> simp_all
  have hsplit:qc (fi L)=qc (fi (L.take m))++qc (fi (L.drop m)):=by rw [← zBr,← zDU,List.take_append_drop]
  by_cases hm:m≤L.length
  · have hl:(qc (fi (L.take m))).length=m*2:=by rw [zBC,zAK,List.length_take]; omega
    have:=h.cells (g:=g) rfl (m*2+j) u (by rw [hsplit,List.getElem?_append_right (by omega),hl,Nat.add_sub_cancel_left]; exact hj)
    rw [hadd,Nat.zero_add] at this
    rw [hadd]
    exact this
  · rw [List.drop_eq_nil_of_le (by omega)] at hj
    simp [fi,qc] at hj
end Go.Proofs.YtllaekopaglolaaGreat
end
/-
  laws.items: the items of the reference.
-/
section
namespace Go.Proofs.YtllaekopaglolaaGreat
open Go.RowKit
theorem Tryz.infoSI:(Tryz.prog.info? 38).map (fun i=>(i.zero,i.size,i.bytes))=some (some (.agg #[.float .f64 0,.float .f64 0]),2,16):=by kernel_rfl
def zVa (t:TypeId) (ps:List (Nat × Nat)) (w:World) (e:Ending) (w':World):Prop :=
  ∃ ao c,e = .returned (.slice ao ps.length c)∧OwnQ t w w' (.slice ao ps.length c) ps
def zVE (ps:List (Nat × Nat)) (w wr:World) (v i:Value):Prop :=
  ∃ k ao c,k≤ps.length∧i = .int .i64 (k:Int)∧v = .slice ao k c∧OwnQ 38 w wr (.slice ao k c) (ps.take k)
set_option maxRecDepth 100000 in
set_option maxHeartbeats 400000 in
theorem zJm (ao:Option Addr) (cp:Nat) (ps:List (Nat × Nat)) (w:World) (hl:LieR w ao ps) (hn:ps.length≤2147483647) :
    Calls Tryz.prog 5 #[.slice ao ps.length cp] w fun e w'=>zVa 38 ps w e w':=by
  have HL:=Lib.hid hl; clear hl
  go_enter Tryz.func5,Tryz.ntmps5
  go_wp2
  go_loopw [3,8] (fun v i wr=>zVE ps w wr v i) (fun _ i _=>ps.length - (intOf i).toNat)
  case atStart=>exact ⟨0,none,0,by omega,rfl,rfl,OwnQ.nil _ _⟩
  case round =>
    obtain ⟨k,ar,cr,hk,rfl,rfl,hown⟩:=hrel
    by_cases hlt:k<ps.length
    · have hbw:=hown.2
      have hlie:=HL.out.later hbw
      rcases hlie with h0 | ⟨g,off,rfl,hcell⟩
      · rw [h0] at hlt; exact absurd hlt (Nat.not_lt_zero _)
      obtain ⟨c0,c1⟩:=hcell k hlt
      obtain ⟨x,hx⟩:∃ x,x=ps[k].1:=⟨_,rfl⟩
      obtain ⟨b,hb⟩:∃ b,b=ps[k].2:=⟨_,rfl⟩
      rw [← hx] at c0
      rw [← hb] at c1
      have HX:=Lib.hid hx
      have HB:=Lib.hid hb
      have hz:=hown.2.size
      have HO:=Lib.hid hown
      have ho1:=hown.1.1
      have hkl:(ps.take k).length=k:=by simp; omega
      rw [hkl] at ho1
      clear hx hb hown hcell hbw hkl
      go_wp2_with (at_builtin; refine zE0 (wr.alloc (.cells #[.float .f64 x,.float .f64 b] 37)) (wr.heap.size+1) (by simp) x b rfl _ _ 24 38 rfl (.agg #[.float .f64 0,.float .f64 0]) 16 Tryz.underlying24 Tryz.infoSI rfl (.slice ar k cr) k (ps.take k) rfl (ho1.alloc _) rfl (by omega) (by decide) ?_; intro ao1 cp1 w1 hown' hgrow hblk)
      have hst:=HO.out.step2 (o1:=.cells #[.float .f64 x,.float .f64 b] 37) (o2:=.cells #[.float .f64 x,.float .f64 b] 38) (by rw [show (ps.take k).length=k from by simp; omega]; exact hown') hgrow hblk
      have HS:=Lib.hid hst
      clear hst hown' hgrow hblk ho1 c0 c1
      go_wp2
      go_roundw
      case rel =>
        refine ⟨k+1,ao1,cp1,by omega,by go_num,rfl,?_⟩
        have:=HS.out
        rw [HX.out,HB.out] at this
        rw [List.take_succ_eq_append_getElem hlt]
        exact this
      case measure=>simp [intOf]; omega
    · obtain rfl:k=ps.length:=by omega
      have HO:=Lib.hid hown
      clear hown hlt
      go_wp2
      go_ret
      refine ⟨ar,cr,rfl,?_⟩
      have:=HO.out
      rwa [List.take_length] at this
end Go.Proofs.YtllaekopaglolaaGreat
end
