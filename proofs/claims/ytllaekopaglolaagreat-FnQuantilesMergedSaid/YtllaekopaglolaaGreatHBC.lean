/-
  The sparse store,as one of its kind.
-/
import Derived.Test.YtllaekopaglolaaGreatHAS
import Derived.Test.YtllaekopaglolaaGreatHBB
import Derived.Test.YtllaekopaglolaaGreatHAX
import Derived.Test.YtllaekopaglolaaGreatHAI
import Derived.Test.YtllaekopaglolaaGreatProg
import Derived.Test.YtllaekopaglolaaGreatHAA
import Derived.Defers
import Derived.Recover
section
namespace Go.Proofs.YtllaekopaglolaaGreat
open Go.RowKit Go.Maps
theorem zWt (p:Nat) (w:World):(method 339 95 (.pointer (some ⟨p,0,none⟩)) "AddWithCount").run Tryz.prog w = .ok (194,.pointer (some ⟨p,0,none⟩)) w:=by kernel_rfl
theorem zWq (p:Nat) (w:World):(method 339 95 (.pointer (some ⟨p,0,none⟩)) "KeyAtRank").run Tryz.prog w = .ok (202,.pointer (some ⟨p,0,none⟩)) w:=by kernel_rfl
def StS (_most:Int) (xs:Bins) (S:Nat→Prop) (p:Nat) (w:World):Prop :=
  ∃ b,zDY (cntB xs) p b xs.length w∧∀ k,S k↔k=p∨k=b
theorem zDY.fr {f:Int→Nat} {p b k:Nat} {S:Nat→Prop} {w w':World} (h:zDY f p b k w) (hf:Fr S w w') (hp:¬ S p) (hb:¬ S b):zDY f p b k w':=by
  obtain ⟨h1,⟨D,h2,h3⟩,h4⟩:=h
  refine ⟨hf.heap h1 hp,⟨D,?_,h3⟩,h4⟩
  obtain ⟨es,m0,h5,h6⟩:=h2
  exact ⟨es,m0,hf.heap h5 hb,h6⟩
set_option maxRecDepth 100000 in
theorem zQt (most:Int) (w:World):Calls Tryz.prog 35 #[.int .i64 1,.int .i64 most] w fun e w'=>∃ p S,e = .returned (.iface 95 (.pointer (some ⟨p,0,none⟩)))∧StS most [] S p w'∧(∀ k,S k→w.heap.size≤k)∧Fr (fun _=>False) w w':=by
  go_enter Tryz.func35,Tryz.ntmps35
  go_wp2_with (go_at_call 55; (with_reducible refine (zUD _).mono ?_); rintro e w' ⟨p,b,rfl,h1,h2,h3,h4⟩; have H1:=Lib.hid h1; have H2:=Lib.hid h2; have H3:=Lib.hid h3; have H4:=Lib.hid h4; clear h1 h2 h3 h4)
  go_ret
  exact ⟨p,fun k=>k=p∨k=b,rfl,⟨b,H1.out,fun k=>Iff.rfl⟩,fun k hk=>hk.elim (fun e=>by rw [e]; exact H2.out) (fun e=>by rw [e]; exact H3.out),H4.out⟩
def zHM:zAD 1 where
  T:=95
  fAdd:=194
  fKey:=202
  St:=StS
  mAdd:=zWt
  mKey:=zWq
  eAdd:=enters_of Tryz.func194 (by kernel_rfl) rfl
  eKey:=enters_of Tryz.func202 (by kernel_rfl) rfl
  new:=fun most w _=>zQt most w
  add:=fun most xs S p i c w _ h hr _ ht hl b1 b2 hc=>by
    obtain ⟨b,h1,h2⟩:=h
    have hti:cntB xs i≤tot xs:=by rw [← zAy hr]; exact zCk _ _ b1 b2
    refine (zU3 (cntB xs) p b xs.length i c w h1 hc (by omega) (by omega) (by omega) (by omega)).mono ?_
    rintro e w' ⟨rfl,h3,h4⟩
    refine ⟨rfl,S,⟨b,?_,h2⟩,h4.mono (fun k _ hk=>(h2 k).2 (.inr hk)),fun k hk=>.inl hk⟩
    rw [zFd,List.length_append]
    exact h3
  key:=fun most xs S p r w _ h hr hp ht hl hr0 hr1 hr2=>by
    obtain ⟨b,h1,h2⟩:=h
    have htt:=zAy hr
    refine (zOH (cntB xs) p b xs.length r w h1 (by omega) (fun i hi=>zBy hr i hi) (by omega) hr1 (by rw [htt]; exact hr2)).mono ?_
    rintro e w' ⟨⟨K,rfl,hk⟩,hb⟩
    have hf:=Fr.of_below hb
    refine ⟨⟨K,rfl,by rw [zCz (by decide) (by decide)]; exact hk⟩,S,⟨b,h1.fr hf (Nat.not_le.2 (lt_of_block h1.ptr)) ?_,h2⟩,hf.mono (fun k hk h=>absurd h (Nat.not_le.2 hk)),fun k hk=>.inl hk⟩
    obtain ⟨D,ho,_⟩:=h1.own
    exact Nat.not_le.2 ho.lt
  fr:=fun most xs S p S2 w w' h hf hn=>by
    obtain ⟨b,h1,h2⟩:=h
    exact ⟨b,h1.fr hf (hn p ((h2 p).2 (.inl rfl))) (hn b ((h2 b).2 (.inr rfl))),h2⟩
  lt:=fun most xs S p w h k hk=>by
    obtain ⟨b,h1,h2⟩:=h
    obtain ⟨D,ho,_⟩:=h1.own
    rcases (h2 k).1 hk with e | e
    · rw [e]; exact lt_of_block h1.ptr
    · rw [e]; exact ho.lt
end Go.Proofs.YtllaekopaglolaaGreat
end
/-
  What is kept: its indices,its count,its least and its greatest index.
-/
section
namespace Go.Proofs.YtllaekopaglolaaGreat
open Go.RowKit
theorem zUY {kind most:Int} (hk:zBg kind most=true) {xs:Bins} (h:InR xs):InR (zBz kind most xs):=by
  unfold zBz lowB zND
  split
  · rename_i h3; subst h3
    obtain ⟨m,rfl,h1,h2⟩:=zWy hk
    split
    · intro p hp; cases hp
    · rename_i hne
      refine InR.summed (fun p hp=>?_)
      obtain ⟨q,hq,rfl⟩:=List.mem_map.1 hp
      have hb:=h.summed q hq
      have hl:zUX (summed xs)≤10000:=by
        obtain ⟨k,hk2⟩:∃ k,(summed xs).length=k+1:=⟨(summed xs).length - 1,by have:=List.length_pos_iff.2 hne; omega⟩
        rw [zSV _ k hk2]
        exact (h.summed _ (List.getElem_mem _)).2
      show -10000≤max q.1 _∧max q.1 _≤10000
      omega
  · split
    · rename_i h4; subst h4
      obtain ⟨m,rfl,h1,h2⟩:=zWx hk
      split
      · intro p hp; cases hp
      · rename_i hne
        refine InR.summed (fun p hp=>?_)
        obtain ⟨q,hq,rfl⟩:=List.mem_map.1 hp
        have hb:=h.summed q hq
        have hl:-10000≤zOW (summed xs):=by
          rw [zQm _ (List.length_pos_iff.2 hne)]
          exact (h.summed _ (List.getElem_mem _)).1
        show -10000≤min q.1 _∧min q.1 _≤10000
        omega
    · exact h.summed
theorem zFN (kind most:Int) (xs:Bins):tot (zBz kind most xs)=tot xs:=by
  unfold zBz lowB zND
  split
  · split
    · rename_i h; rw [← zCK xs,h]
    · rw [zCK,zUU,zCK]
  · split
    · split
      · rename_i h; rw [← zCK xs,h]
      · rw [zCK,zUu,zCK]
    · rw [zCK]
theorem zON (kind most:Int) (xs:Bins):(zBz kind most xs).length≤xs.length:=by
  have h:=zDb xs
  unfold zBz lowB zND zJh zS2
  split
  · split
    · exact Nat.zero_le _
    · refine Nat.le_trans (zDb _) ?_
      rw [List.length_map]; exact h
  · split
    · split
      · exact Nat.zero_le _
      · refine Nat.le_trans (zDb _) ?_
        rw [List.length_map]; exact h
    · exact h
end Go.Proofs.YtllaekopaglolaaGreat
end
/-
  What the sparse store tells.
-/
section
namespace Go.Proofs.YtllaekopaglolaaGreat
open Go.RowKit Go.Maps
theorem zJz {xs:Bins} (hp:Pos xs):(∀ i,cntB xs i=0)↔xs=[]:=by
  constructor
  · intro h
    cases xs with
    | nil=>rfl
    | cons p t =>
      have h1:=h p.1
      have h2:cntB (p :: t) p.1=zAe (cntB t) p.1 p.2 p.1:=rfl
      have h3:=hp p List.mem_cons_self
      rw [h2] at h1
      have h4:zAe (cntB t) p.1 p.2 p.1=cntB t p.1+p.2:=by show (if p.1=p.1 then _ else _)=_; rw [if_pos rfl]
      omega
  · rintro rfl i; rfl
theorem zIU {xs:Bins} {B:Bool} (h:B=true↔xs=[]):B=xs.isEmpty:=by
  cases xs with
  | nil=>exact h.2 rfl
  | cons p t =>
    show B=false
    cases B with
    | false=>rfl
    | true=>exact absurd (h.1 rfl) (List.cons_ne_nil p t)
theorem zV3 {kind most:Int} {xs:Bins} (hp:Pos xs) (h:xs≠[]):zBz kind most xs≠[]:=fun e=>by
  have h1:=zFN kind most xs
  have h2:=zRM hp h
  rw [e] at h1
  have:tot []=0:=rfl
  omega
end Go.Proofs.YtllaekopaglolaaGreat
end
/-
  The store with pages: IsEmpty.
-/
section
namespace Go.Proofs.YtllaekopaglolaaGreat
open Go.RowKit
variable {tg:Int}
def zXw (G:Int→Nat) (mp:Int) (n:Nat) (w wr:World) (i:Value):Prop :=
  ∃ j:Nat,j≤n∧i = .int .i64 (j:Int)∧Hid (∀ i,i<32*(mp+j)→G i=0)∧wr=w
def zXv (G:Int→Nat) (x:Int) (w wr:World) (i:Value):Prop :=
  ∃ k:Nat,k≤32∧i = .int .i64 (k:Int)∧Hid (∀ i,i<32*x+k→G i=0)∧wr=w
set_option maxRecDepth 100000 in
set_option maxHeartbeats 400000 in
theorem zJp (G:Int→Nat) (bs:List Int) (q:Int→Option (Nat × Nat)) (mp:Int) (n p:Nat) (bufv pgs:Value) (w:World) (h:zAH tg G bs q mp n p bufv pgs w) (hz:∀ i,i < -10000∨10000<i→G i=0) (hs:tot2 G<9007199254740992) :
    Calls Tryz.prog 256 #[.pointer (some ⟨p,0,none⟩)] w fun e w'=>(∃ B,e = .returned (.bool B)∧(B=true↔∀ i,both G bs i=0))∧w'=w:=by
  obtain ⟨ao,n1,cb,rfl⟩:=zAR h.core.buf
  obtain rfl:=zAo h.core.buf
  obtain ⟨aq,n2,cq,hpgs⟩:=zAR h.core.row
  have hnq:n2=n:=by have h2:=h.core.row; rw [hpgs] at h2; exact zAo h2
  subst hnq
  obtain ⟨d0,d1,d2,d3,d4,d5⟩:=h.core.fields.cells
  rw [hpgs] at d2
  have hbig:n2<1000000000:=by rcases h.bd with ⟨h1,_,_⟩ | ⟨_,h2,h3⟩ <;> omega
  have hb:Hid (0<bs.length→¬ ∀ i,both G bs i=0):=fun h0 h1=>by
    have h2:=h1 (bs[0]'h0)
    have h3:=zUx (List.getElem_mem h0)
    have:G bs[0]+cntI bs bs[0]=0:=h2
    omega
  have HH:=Lib.hid h
  have HP:=Lib.hid hpgs
  have HZ:=Lib.hid hz
  have HS:=Lib.hid hs
  clear h hpgs hz hs
  by_cases hlen:0<bs.length
  · have hlI:(0:Int)<((bs.length:Nat):Int):=by omega
    go_enter Tryz.func256,Tryz.ntmps256
    go_wp2
    go_ret
    exact ⟨⟨false,rfl,⟨(fun e=>by cases e),fun e=>absurd e (hb.out hlen)⟩⟩,rfl⟩
  · have hnil:Hid (bs=[]):=List.eq_nil_of_length_eq_zero (by omega)
    have hl0:bs.length=0:=by omega
    rw [hl0] at d0
    clear hb
    go_enter Tryz.func256,Tryz.ntmps256
    go_wp2
    go_loopw [18] (fun i wr=>zXw G mp n2 w wr i) (fun i _=>n2 - (intOf i).toNat)
    case atStart=>exact ⟨0,Nat.zero_le _,rfl,(fun i hi=>HH.out.low (by omega)),rfl⟩
    case round =>
      obtain ⟨j,hj,rfl,hG,rfl⟩:=hrel
      by_cases hlt:j<n2
      · obtain ⟨g,c0,hg2,hgc,hcell⟩:=HH.out.rowAt (by omega)
        rw [HP.out] at hg2
        cases hg2
        have hc:=hcell j hlt
        have hltI:(j:Int)<(n2:Int):=by omega
        have i1:IntKind.i64.wrap ((j:Int)+1)=(j:Int)+1:=by rw [IntKind.wrap_i64]; omega
        cases hq:q (mp+(j:Int)) with
        | none =>
          rw [hq] at hc
          replace hc:wr.cell? ⟨g,j,none⟩=some (.slice none 0 0):=hc
          have hG2:Hid (∀ i,i<32*(mp+((j+1:Nat):Int))→G i=0):=fun i hi=>by
            by_cases c:i<32*(mp+(j:Int))
            · exact hG.out i c
            · exact HH.out.hole hq (by omega) (by omega)
          clear hcell hq hG
          go_wp2
          go_loopw [24] (fun i wr2=>i = .int .i64 0∧wr2=wr) (fun _ _=>0)
          case atStart=>exact ⟨rfl,rfl⟩
          case round =>
            obtain ⟨rfl,rfl⟩:=hrel
            go_wp2
            go_roundw
            case rel=>exact ⟨j+1,by omega,by go_num,hG2,rfl⟩
            case measure=>simp [intOf]; omega
        | some z =>
          obtain ⟨b,cp⟩:=z
          rw [hq] at hc
          replace hc:wr.cell? ⟨g,j,none⟩=some (.slice (some ⟨b,0,none⟩) 32 cp):=hc
          have hrow:=HH.out.core.page _ _ _ hq
          have HR:=Lib.hid hrow
          clear hcell hrow hq
          go_wp2
          go_loopw [24] (fun i wr2=>zXv G (mp+(j:Int)) wr wr2 i) (fun i _=>32 - (intOf i).toNat)
          case atStart=>exact ⟨0,by omega,rfl,(fun i hi=>hG.out i (by omega)),rfl⟩
          case round =>
            obtain ⟨k,hk,rfl,hGk,rfl⟩:=hrel
            by_cases hk32:k<32
            · have hkI:(k:Int)<32:=by omega
              have i2:IntKind.i64.wrap ((k:Int)+1)=(k:Int)+1:=by rw [IntKind.wrap_i64]; omega
              have c0:=HR.out.cell k hk32
              obtain ⟨x,hx⟩:∃ x,x=32*(mp+(j:Int))+(k:Int):=⟨_,rfl⟩
              rw [← hx] at c0 hGk
              have hb:=zCk G x
              have hGx:G x<9007199254740992:=by
                by_cases c:-10000≤x∧x≤10000
                · have:=hb c.1 c.2; have:=HS.out; omega
                · rw [HZ.out x (by omega)]; omega
              have hord:=zBn (G x) 0 hGx (by decide)
              rw [zAp] at hord
              have HX:=Lib.hid hx
              clear hb hGx hx
              by_cases hpos:0<G x
              · have hgt:(FloatKind.f64.format.order (nf (G x)) 0 == some .gt)=true:=by rw [hord,Nat.compare_eq_gt.2 hpos]; rfl
                have HPOS:=Lib.hid hpos
                obtain ⟨y,hy⟩:∃ y,y=nf (G x):=⟨_,rfl⟩
                rw [← hy] at c0 hgt
                clear hord hy hpos
                go_wp2
                go_ret
                refine ⟨⟨false,rfl,⟨fun e=>(by cases e),fun e=>?_⟩⟩,rfl⟩
                have h1:G x+cntI bs x=0:=e x
                have:=HPOS.out; omega
              · have hgt:(FloatKind.f64.format.order (nf (G x)) 0 == some .gt)=false:=by rw [hord,show G x=0 from by omega]; rfl
                have hG3:Hid (∀ i,i<32*(mp+(j:Int))+((k+1:Nat):Int)→G i=0):=fun i hi=>by
                  by_cases c:i<x
                  · exact hGk.out i c
                  · have:=HX.out
                    rw [show i=x from by omega]; omega
                obtain ⟨y,hy⟩:∃ y,y=nf (G x):=⟨_,rfl⟩
                rw [← hy] at c0 hgt
                clear hord hy hpos hGk
                go_wp2
                go_roundw
                case rel=>exact ⟨k+1,by omega,by go_num,hG3,rfl⟩
                case measure=>simp [intOf]; omega
            · obtain rfl:k=32:=by omega
              clear hk32 hk
              go_wp2
              go_roundw
              case rel=>exact ⟨j+1,by omega,by go_num,(fun i hi=>hGk.out i (by omega)),rfl⟩
              case measure=>simp [intOf]; omega
      · obtain rfl:j=n2:=by omega
        clear hlt
        go_wp2
        go_ret
        refine ⟨⟨true,rfl,⟨fun _ i=>?_,fun _=>rfl⟩⟩,rfl⟩
        show G i+cntI bs i=0
        rw [hnil.out]
        by_cases c:i<32*(mp+(j:Int))
        · rw [hG.out i c]; rfl
        · rw [HH.out.high (by omega)]; rfl
end Go.Proofs.YtllaekopaglolaaGreat
end
/-
  What a sketch asks of a store: its count,whether it is empty,the index of any rank.
-/
section
namespace Go.Proofs.YtllaekopaglolaaGreat
open Go.RowKit Go.Maps
def rk (r:Nat):Nat:=if (FloatKind.f64.format.order r 0 == some .lt)=true then 0 else r
structure zCJ {kind:Int} (K:zAD kind) where
  fTot:FuncId
  fEmp:FuncId
  mTot:∀ p w,(method 339 K.T (.pointer (some ⟨p,0,none⟩)) "TotalCount").run Tryz.prog w = .ok (fTot,.pointer (some ⟨p,0,none⟩)) w
  mEmp:∀ p w,(method 339 K.T (.pointer (some ⟨p,0,none⟩)) "IsEmpty").run Tryz.prog w = .ok (fEmp,.pointer (some ⟨p,0,none⟩)) w
  eTot:∀ args w,(callFunc fTot args).run Tryz.prog w = .ok (.enter fTot args) w
  eEmp:∀ args w,(callFunc fEmp args).run Tryz.prog w = .ok (.enter fEmp args) w
  nAdd:∀ p w,(nilAhead 339 K.T (.pointer (some ⟨p,0,none⟩)) "AddWithCount").run Tryz.prog w = .ok (some false) w
  nKey:∀ p w,(nilAhead 339 K.T (.pointer (some ⟨p,0,none⟩)) "KeyAtRank").run Tryz.prog w = .ok (some false) w
  cTot:∀ most xs S p w,K.St most xs S p w→Few kind most xs→Calls Tryz.prog fTot #[.pointer (some ⟨p,0,none⟩)] w fun e w'=>e = .returned (.float .f64 (nf (tot xs)))∧zHr K most xs S p w w'
  cEmp:∀ most xs S p w,K.St most xs S p w→Few kind most xs→Calls Tryz.prog fEmp #[.pointer (some ⟨p,0,none⟩)] w fun e w'=>e = .returned (.bool xs.isEmpty)∧zHr K most xs S p w w'
  cKey:∀ most xs S p r w,K.St most xs S p w→Few kind most xs→fgt2 (nf 0) (rk r)=false→fgt2 (nf (tot xs)) (rk r)=true →
    ((FloatKind.f64.format.order r 0 == some .lt)=true→∀ n,0<n→n<9007199254740992→fgt2 (nf n) 0=true∧fgt2 (nf n) r=true) →
    Calls Tryz.prog K.fKey #[.pointer (some ⟨p,0,none⟩),.float .f64 r] w fun e w'=>(∃ k,e = .returned (.int .i64 k)∧zB5 (cntB xs) (rk r) k)∧∃ S',K.St most xs S' p w'∧Fr S w w'∧∀ b,S' b→S b∨w.heap.size≤b
theorem zRg {r:Nat} (h:(FloatKind.f64.format.order r 0 == some .lt)=true):rk r=0:=by unfold rk; rw [if_pos h]
theorem zRf {r:Nat} (h:(FloatKind.f64.format.order r 0 == some .lt)=false):rk r=r:=by unfold rk; rw [if_neg (by rw [h]; decide)]
def skD:zCJ zGV where
  fTot:=181
  fEmp:=175
  mTot:=fun _ _=>by kernel_rfl
  mEmp:=fun _ _=>by kernel_rfl
  eTot:=enters_of Tryz.func181 (by kernel_rfl) rfl
  eEmp:=enters_of Tryz.func175 (by kernel_rfl) rfl
  nAdd:=fun _ _=>by kernel_rfl
  nKey:=fun _ _=>by kernel_rfl
  cTot:=fun most xs S p w h hf=>by
    have hd:zRE (cntB xs) (tot xs) p w:=by
      rcases (show StD most xs S p w from h) with ⟨rfl,h2,_⟩ | ⟨mn,mx,g,L,cp,h1,h2,h3,h4⟩
      · exact .inl ⟨rfl,fun i=>rfl,_,_,h2⟩
      · exact .inr ⟨mn,mx,g,L,cp,_,_,h1.ok,h1.zero,h1.le,h1.pos,h1.lt,h1.lo,h1.hi,h2,h3,zAy hf.inR⟩
    exact hd.tot.mono fun e w' ⟨a,b⟩=>⟨a,by subst b; exact zB0 h (Below.refl _ _)⟩
  cEmp:=fun most xs S p w h hf=>by
    have hd:zRE (cntB xs) (tot xs) p w:=by
      rcases (show StD most xs S p w from h) with ⟨rfl,h2,_⟩ | ⟨mn,mx,g,L,cp,h1,h2,h3,h4⟩
      · exact .inl ⟨rfl,fun i=>rfl,_,_,h2⟩
      · exact .inr ⟨mn,mx,g,L,cp,_,_,h1.ok,h1.zero,h1.le,h1.pos,h1.lt,h1.lo,h1.hi,h2,h3,zAy hf.inR⟩
    exact hd.emp.mono fun e w' ⟨a,b⟩=>⟨by rw [a,zM7 hf.pos],by subst b; exact zB0 h (Below.refl _ _)⟩
  cKey:=fun most xs S p r w h hf hr1 hr2 hn=>by
    rcases (show StD most xs S p w from h) with ⟨rfl,_,_⟩ | ⟨mn,mx,g,L,cp,h1,h2,h3,h4⟩
    · rw [show tot []=0 from rfl] at hr2; rw [hr1] at hr2; cases hr2
    · cases hc:(FloatKind.f64.format.order r 0 == some .lt)
      · rw [zRf hc] at hr1 hr2 ⊢
        refine (zOK (cntB xs) (tot xs) r mn mx p g L cp [] 124 w h1.ok h1.zero (zAy hf.inR).symm h1.lt h1.lo h1.hi (by have:=h1.len; omega) hc hr1 hr2).mono ?_
        rintro e w' ⟨⟨K,rfl,hk⟩,rfl⟩
        exact ⟨⟨K,rfl,hk⟩,S,h,Fr.refl _ _,fun k hk=>.inl hk⟩
      · rw [zRg hc] at hr1 hr2 ⊢
        refine (zSa (cntB xs) (tot xs) r mn mx p g L cp [] 124 w h1.ok h1.zero (zAy hf.inR).symm h1.lt h1.lo h1.hi (by have:=h1.len; omega) hc hr1 hr2).mono ?_
        rintro e w' ⟨⟨K,rfl,hk⟩,rfl⟩
        exact ⟨⟨K,rfl,hk⟩,S,h,Fr.refl _ _,fun k hk=>.inl hk⟩
def skS:zCJ zHM where
  fTot:=207
  fEmp:=201
  mTot:=fun _ _=>by kernel_rfl
  mEmp:=fun _ _=>by kernel_rfl
  eTot:=enters_of Tryz.func207 (by kernel_rfl) rfl
  eEmp:=enters_of Tryz.func201 (by kernel_rfl) rfl
  nAdd:=fun _ _=>by kernel_rfl
  nKey:=fun _ _=>by kernel_rfl
  cTot:=fun most xs S p w h hf=>by
    obtain ⟨b,h1,h2⟩:=id h
    have htt:=zAy hf.inR
    refine (zOu (cntB xs) p b xs.length w h1 (by have:=hf.len; omega) (fun i hi=>zBy hf.inR i hi) (by have:=hf.tot; omega)).mono fun e w' ⟨a,hb⟩=>⟨by rw [a,htt],zB0 h hb⟩
  cEmp:=fun most xs S p w h hf=>by
    obtain ⟨b,h1,h2⟩:=id h
    refine (zJo (cntB xs) p b xs.length w h1).mono ?_
    rintro e w' ⟨⟨B,rfl,hB⟩,rfl⟩
    exact ⟨by rw [zIU (hB.trans (zJz hf.pos))],zB0 h (Below.refl _ _)⟩
  cKey:=fun most xs S p r w h hf hr1 hr2 hn=>by
    obtain ⟨b,h1,h2⟩:=id h
    have htt:=zAy hf.inR
    have hfin:∀ w',Below w.heap.size w w'→∃ S',StS most xs S' p w'∧Fr S w w'∧∀ b,S' b→S b∨w.heap.size≤b:=fun w' hb=>by
      obtain ⟨k1,k2⟩:=zB0 (K:=zHM) h hb
      exact ⟨S,k1,k2,fun k hk=>.inl hk⟩
    cases hc:(FloatKind.f64.format.order r 0 == some .lt)
    · rw [zRf hc] at hr1 hr2 ⊢
      refine (zOH (cntB xs) p b xs.length r w h1 (by have:=hf.len; omega) (fun i hi=>zBy hf.inR i hi) (by have:=hf.tot; omega) hr1 (by rw [htt]; exact hr2)).mono ?_
      rintro e w' ⟨⟨K,rfl,hk⟩,hb⟩
      exact ⟨⟨K,rfl,hk⟩,hfin w' hb⟩
    · rw [zRg hc] at hr1 hr2 ⊢
      refine (zSX (cntB xs) p b xs.length r w h1 (by have:=hf.len; omega) (fun i hi=>zBy hf.inR i hi) (by have:=hf.tot; omega) hr1 (by rw [htt]; exact hr2) (hn hc)).mono ?_
      rintro e w' ⟨⟨K,rfl,hk⟩,hb⟩
      exact ⟨⟨K,rfl,hk⟩,hfin w' hb⟩
def skP:zCJ zM5 where
  fTot:=262
  fEmp:=256
  mTot:=fun _ _=>by kernel_rfl
  mEmp:=fun _ _=>by kernel_rfl
  eTot:=enters_of Tryz.func262 (by kernel_rfl) rfl
  eEmp:=enters_of Tryz.func256 (by kernel_rfl) rfl
  nAdd:=fun _ _=>by kernel_rfl
  nKey:=fun _ _=>by kernel_rfl
  cTot:=fun most xs S p w h hf=>by
    obtain ⟨tg,G,bs,q,mp,n,bufv,pgs,h1,h2,h3,h4,h5,h6⟩:=id h
    have htt:=zGl h2 hf.inR h3
    refine (zOv G bs q mp n p bufv pgs w h1 (zEJ h2 hf.inR) (by have:=hf.tot; omega)).mono fun e w' ⟨a,hb⟩=>⟨by rw [a,show bs.length+tot2 G=tot xs from by omega],by subst hb; exact zB0 h (Below.refl _ _)⟩
  cEmp:=fun most xs S p w h hf=>by
    obtain ⟨tg,G,bs,q,mp,n,bufv,pgs,h1,h2,h3,h4,h5,h6⟩:=id h
    have htt:=zGl h2 hf.inR h3
    refine (zJp G bs q mp n p bufv pgs w h1 (zEJ h2 hf.inR) (by have:=hf.tot; omega)).mono ?_
    rintro e w' ⟨⟨B,rfl,hB⟩,rfl⟩
    rw [h2] at hB
    exact ⟨by rw [zIU (hB.trans (zJz hf.pos))],zB0 h (Below.refl _ _)⟩
  cKey:=fun most xs S p r w h hf hr1 hr2 hn=>by
    obtain ⟨tg,G,bs,q,mp,n,bufv,pgs,h1,h2,h3,h4,h5,h6⟩:=id h
    have htt:=zGl h2 hf.inR h3
    have hfin:∀ (bs':List Int) (w':World),bs'.Perm bs→zAH tg G bs' q mp n p bufv pgs w'→Fr (fun k=>bufv.ownBlock=some k) w w'→∃ S',StP most xs S' p w'∧Fr S w w'∧∀ b,S' b→S b∨w.heap.size≤b:=fun bs' w' hpm hP hfr=>by
      refine ⟨S,⟨tg,G,bs',q,mp,n,bufv,pgs,hP,?_,fun b hb=>h3 b (hpm.mem_iff.1 hb),by rw [hpm.length_eq]; exact h4,h5,h6⟩,hfr.mono (fun k _ hk=>(h6 k).2 (.inr (.inl hk))),fun k hk=>.inl hk⟩
      rw [← h2]
      show (fun i=>G i+cntI bs' i)=fun i=>G i+cntI bs i
      rw [zFc hpm]
    cases hc:(FloatKind.f64.format.order r 0 == some .lt)
    · rw [zRf hc] at hr1 hr2 ⊢
      refine (zOI G bs q mp n p bufv pgs r w h1 h3 (zEJ h2 hf.inR) (by have:=hf.tot; omega) hc hr1 (by rw [htt]; exact hr2)).mono ?_
      rintro e w' ⟨bs',K,rfl,hk,hpm,hP,hfr⟩
      exact ⟨⟨K,rfl,by rw [← h2]; exact hk⟩,hfin bs' w' hpm hP hfr⟩
    · rw [zRg hc] at hr1 hr2 ⊢
      refine (zSY G bs q mp n p bufv pgs r w h1 h3 (zEJ h2 hf.inR) (by have:=hf.tot; omega) hc hr1 (by rw [htt]; exact hr2)).mono ?_
      rintro e w' ⟨bs',K,rfl,hk,hpm,hP,hfr⟩
      exact ⟨⟨K,rfl,by rw [← h2]; exact hk⟩,hfin bs' w' hpm hP hfr⟩
end Go.Proofs.YtllaekopaglolaaGreat
end
/-
  impl.mapped: a mapping of each kind.
-/
section
namespace Go.Proofs.YtllaekopaglolaaGreat
open Go.RowKit
def zVD (tP t:TypeId) (g off mult mn mx:Nat) (w:World) (e:Ending) (w':World):Prop :=
  ∃ p,e = .returned (.tuple #[.iface tP (.pointer (some ⟨p,0,none⟩)),.bool true])∧w.heap.size≤p∧w'.heap[p]?=some (.cells #[.float .f64 g,.float .f64 off,.float .f64 mult,.float .f64 mn,.float .f64 mx] t (0,0))∧Below w.heap.size w w'
set_option maxRecDepth 100000 in
set_option maxHeartbeats 800000 in
theorem zPJ (a g off mult mn mx:Nat) (w:World) (h:zGC a=some (g,off,mult,mn,mx)):Calls Tryz.prog 34 #[.int .i64 0,.float .f64 a] w fun e w'=>zVD 84 143 g off mult mn mx w e w':=by
  have H:=fun w=>zR6 a g off mult mn mx w h
  clear h
  go_enter Tryz.func34,Tryz.ntmps34
  go_wp2_with (go_at_call 51; (with_reducible refine (H w).mono ?_); rintro e w' ⟨p,rfl,hp,hh,hb⟩)
  go_region
  go_wp2
  go_ret2
  exact ⟨p,rfl,hp,hh,hb.drew⟩
set_option maxRecDepth 100000 in
set_option maxHeartbeats 800000 in
theorem zPK (a g off mult mn mx:Nat) (w:World) (h:zGD a=some (g,off,mult,mn,mx)):Calls Tryz.prog 34 #[.int .i64 1,.float .f64 a] w fun e w'=>zVD 87 144 g off mult mn mx w e w':=by
  have H:=fun w=>zR8 a g off mult mn mx w h
  clear h
  go_enter Tryz.func34,Tryz.ntmps34
  go_wp2_with (go_at_call 52; (with_reducible refine (H w).mono ?_); rintro e w' ⟨p,rfl,hp,hh,hb⟩)
  go_region
  go_wp2
  go_ret2
  exact ⟨p,rfl,hp,hh,hb.drew⟩
set_option maxRecDepth 100000 in
set_option maxHeartbeats 800000 in
theorem zPL (a g off mult mn mx:Nat) (w:World) (h:zGE a=some (g,off,mult,mn,mx)):Calls Tryz.prog 34 #[.int .i64 2,.float .f64 a] w fun e w'=>zVD 90 145 g off mult mn mx w e w':=by
  have H:=fun w=>zSA a g off mult mn mx w h
  clear h
  go_enter Tryz.func34,Tryz.ntmps34
  go_wp2_with (go_at_call 53; (with_reducible refine (H w).mono ?_); rintro e w' ⟨p,rfl,hp,hh,hb⟩)
  go_region
  go_wp2
  go_ret2
  exact ⟨p,rfl,hp,hh,hb.drew⟩
end Go.Proofs.YtllaekopaglolaaGreat
end
/-
  quietly: calls what it is handed; where that returns,the answer is true.
-/
section
namespace Go.Proofs.YtllaekopaglolaaGreat
open Go.RowKit
theorem zO6 (p:Addr) (w:World) :
    CallsD Tryz.prog 43 #[.pointer (some p)] .returning w fun e u' w'=>e = .returned (.tuple #[])∧u' = .returning∧w'=w:=by
  refine callsD_of_wpS Tryz.func43 rfl fun c₀ cs hu=>?_
  apply wpS_seq
  apply wpS_region
  simp [wpOpsS,go_sem,recoverD,hu,Tryz.ntmps43,Exit.thenS]
  refine wpS_cond (t:=false) (by simp [Act.eval,Array.replicate]) ?_
  simp only [Bool.false_eq_true,if_false]
  refine wpS_of_wp (wp_skip ?_)
  cases c₀
  simp_all [bodyPostS,results,Tryz.results43]
def zWR (Q:World→Prop) (b:Nat) (w':World):Prop:=∃ w1,Q w1∧w'=w1.setCell ⟨b,0,none⟩ (.bool true)
set_option maxRecDepth 100000 in
theorem zG1 (K:FuncId) (caps:Array Value) (w:World) (Q:World→Prop) (hK:∀ w,(callFunc K caps).run Tryz.prog w = .ok (.enter K caps) w)
    (hf:Calls Tryz.prog K caps (w.alloc (.cells #[.bool false] 4)) fun e w1=>e = .returned (.tuple #[])∧w1.heap[w.heap.size]?=some (.cells #[.bool false] 4 (0,0))∧Q w1) :
    Calls Tryz.prog 27 #[.func (.func K) #[] caps] w fun e w'=>e = .returned (.bool true)∧zWR Q w.heap.size w':=by
  have hmf:∀ (fn:Fn) (first cap:Array Value) (w:World),(Instr.makeFunc fn first cap).run Tryz.prog w = .ok (.func fn first cap) w:=fun _ _ _ _=>rfl
  go_enter_defers Tryz.func27,Tryz.ntmps27
  go_wp2_with fail
  refine hf.mono ?_
  rintro e w1 ⟨rfl,hc,hq⟩
  have hcc:=cell_of_one hc
  have hff:=free_of_one hc
  go_wp2
  refine leaves_cons (f:=43) (args:=#[.pointer (some ⟨w.heap.size,0,none⟩)]) (by simp) (by simp [go_sem]) ?_
  refine (zO6 ⟨w.heap.size,0,none⟩ _).mono ?_
  rintro e u' w'' ⟨rfl,rfl,rfl⟩
  have hc2:=cell_of_one (one_setCell (u:=.bool true) hc)
  simp only [Leaves,settle]
  refine ⟨.bool true,?_,rfl,w1,hq,rfl⟩
  simp [results,Tryz.results27,go_sem,hc2]
end Go.Proofs.YtllaekopaglolaaGreat
end
/-
  coded: the bytes that what it is handed appends to an empty slice.
-/
section
namespace Go.Proofs.YtllaekopaglolaaGreat
open Go.RowKit
theorem zAf {P:Program} {f:FuncId} {fn:Func} {c:Code} (hf:P.funcs[f]?=some fn) (hname:(fn.name == "runtime.NumGoroutine")=false) (hb:fn.body=some c) (args:Array Value) (w:World) :
    (callFunc f args).run P w = .ok (.enter f args) w:=by
  have h1:fn.name ≠ "runtime.NumGoroutine":=by simpa using hname
  simp [callFunc,hf,h1,hb]
def zXX (B:Nat) (w':World) (s:Value) (ys:List Nat):Prop :=
  w'.ownsRow 0 5 1 s ys.length (cu8 ys)∧∀ k,s.ownBlock=some k→B≤k
def zNg (w w':World) (b:Nat) (ys:List Nat):Prop :=
  ∃ s,w'.heap[b]?=some (.cells #[s] 40 (0,0))∧zXX w.heap.size w' s ys∧Fr (fun k=>k=b) w w'
set_option maxRecDepth 100000 in
theorem zQ0 (pf po:Nat) (K:FuncId) (caps:Array Value) (ys:List Nat) (so:Value) (w:World)
    (hpf:w.heap[pf]?=some (.cells #[.func (.func K) #[] caps] 59 (0,0))) (hpo:w.heap[po]?=some (.cells #[so] 40 (0,0)))
    (hK:∀ p w,(callFunc K (#[.pointer (some p)]++caps)).run Tryz.prog w = .ok (.enter K (#[.pointer (some p)]++caps)) w)
    (hf:∀ w1 p r,Buf 40 5 w1 p r []→Fr (fun _=>False) w w1→w.heap.size≤p→Calls Tryz.prog K (#[.pointer (some ⟨p,0,none⟩)]++caps) w1 fun e w'=>e = .returned (.tuple #[])∧zCd 40 5 w1 w' p r ys) :
    Calls Tryz.prog 42 #[.pointer (some ⟨pf,0,none⟩),.pointer (some ⟨po,0,none⟩)] w fun e w'=>e = .returned (.tuple #[])∧zNg w w' po ys:=by
  have hc1:=cell_of_one hpf
  have hc2:=cell_of_one hpo
  have hl1:=lt_of_block hpf
  have hl2:=lt_of_block hpo
  have H:=hf ((w.alloc (.cells #[] 5)).alloc (.cells #[.slice (some ⟨w.heap.size,0,none⟩) 0 0] 40)) (w.heap.size+1) (some w.heap.size)
    ⟨.slice (some ⟨w.heap.size,0,none⟩) 0 0,by have:=heap_alloc_new (w.alloc (.cells #[] 5)) (.cells #[.slice (some ⟨w.heap.size,0,none⟩) 0 0] 40); simpa using this,
      (World.ownsRow_made w #[] 0 (Nat.zero_le _) (by decide) rfl).alloc _,rfl⟩ (((Fr.refl _ w).alloc _).alloc _) (by omega)
  clear hf
  go_enter Tryz.func42,Tryz.ntmps42
  go_wp2_with fail
  refine H.mono ?_
  clear H
  rintro e w1 ⟨rfl,r',⟨s,hs,hown,hrr⟩,hfr,hr'⟩
  have hpo1:w1.heap[po]?=some (.cells #[so] 40 (0,0)):=hfr.heap (by rw [Below.heap_alloc _ _ _ (by simp; omega),Below.heap_alloc _ _ _ (by omega)]; exact hpo) (by simp; omega)
  have g:zNg w (w1.setCell ⟨po,0,none⟩ s) po ys:=by
    have hblk:∀ k,s.ownBlock=some k→w.heap.size≤k:=by
      intro k hk
      rw [hrr] at hk
      rcases hr' with h | ⟨j,h,hj⟩
      · rw [h] at hk; cases hk; exact Nat.le_refl _
      · rw [h] at hk; cases hk; simp at hj; omega
    refine ⟨s,one_setCell hpo1,⟨ownsRow_setCell_other hown ?_ _,hblk⟩,?_⟩
    · intro hk; have:=hblk _ hk; simp at this; omega
    · have h0:Fr (fun k=>w.heap.size≤k) w w1:=(((Fr.refl _ w).alloc _).alloc _).trans hfr (fun _ _ h=>h) (by intro i hi h; rcases h with h | h <;> first | omega | (simp at h; omega))
      exact ((h0.mono (U:=fun k=>k=po∨w.heap.size≤k) (fun _ _ h=>.inr h)).setCell (p:=⟨po,0,none⟩) (fun _=>.inl rfl) s).mono (by intro i hi h; rcases h with h | h <;> omega)
  obtain ⟨ao,n1,cp1,hv1⟩:=zAR hown
  rw [hv1] at g hs
  have hc3:=cell_of_one hs
  have hc4:=cell_of_one hpo1
  have hf4:=free_of_one hpo1
  have G:=Lib.hid g
  clear g hs hown hrr hfr hr' hv1 hpo1 hpo hpf hc1 hc2
  go_wp2
  go_end0
  exact ⟨rfl,G.out⟩
def zF4 (ys:List Nat) (w:World) (e:Ending) (w':World):Prop :=
  ∃ ao n c,e = .returned (.slice ao n c)∧OwnB 5 w w' (.slice ao n c) ys
set_option maxRecDepth 100000 in
theorem zTA (K:FuncId) (caps:Array Value) (ys:List Nat) (w:World)
    (hK:∀ p w,(callFunc K (#[.pointer (some p)]++caps)).run Tryz.prog w = .ok (.enter K (#[.pointer (some p)]++caps)) w)
    (hf:∀ w1 p r,Buf 40 5 w1 p r []→Below w.heap.size w w1→w.heap.size≤p→Calls Tryz.prog K (#[.pointer (some ⟨p,0,none⟩)]++caps) w1 fun e w'=>e = .returned (.tuple #[])∧zCd 40 5 w1 w' p r ys) :
    Calls Tryz.prog 24 #[.func (.func K) #[] caps] w fun e w'=>zF4 ys w e w':=by
  have hmf:∀ (fn:Fn) (first cap:Array Value) (w:World),(Instr.makeFunc fn first cap).run Tryz.prog w = .ok (.func fn first cap) w:=fun _ _ _ _=>rfl
  have e1:∀ o:Obj,(w.alloc o).heap.size=w.heap.size+1:=fun o=>by simp
  have hb0:∀ o1 o2 o3:Obj,Below w.heap.size w (((w.alloc o1).alloc o2).alloc o3):=fun o1 o2 o3=>(((Below.refl _ w).alloc (Nat.le_refl _) _).alloc (by simp) _).alloc (by simp; omega) _
  have H:=zG1 42 #[.pointer (some ⟨w.heap.size,0,none⟩),.pointer (some ⟨w.heap.size+1,0,none⟩)]
    ((w.alloc (.cells #[.func (.func K) #[] caps] 59)).alloc (.cells #[.slice none 0 0] 40))
    (zNg (((w.alloc (.cells #[.func (.func K) #[] caps] 59)).alloc (.cells #[.slice none 0 0] 40)).alloc (.cells #[.bool false] 4)) · (w.heap.size+1) ys)
    (fun w=>zAf Tryz.func42 (by kernel_rfl) rfl _ w)
    ((zQ0 w.heap.size (w.heap.size+1) K caps ys (.slice none 0 0) _ ?h1 ?h2 hK ?h3).mono ?h4)
  case h1=>rw [Below.heap_alloc _ _ _ (by simp; omega),Below.heap_alloc _ _ _ (by simp)]; exact heap_alloc_new w _
  case h2=>rw [Below.heap_alloc _ _ _ (by simp)]; have:=heap_alloc_new (w.alloc (.cells #[.func (.func K) #[] caps] 59)) (.cells #[.slice none 0 0] 40); simpa using this
  case h3 =>
    intro w1 p r hb hfr hp
    exact hf w1 p r hb ((hb0 _ _ _).trans (hfr.below (B:=w.heap.size) (fun _ h=>h.elim) (by simp; omega))) (by simp at hp; omega)
  case h4 =>
    rintro e w1 ⟨rfl,s,hs,hby,hfr⟩
    refine ⟨rfl,?_,s,hs,hby,hfr⟩
    have:=heap_alloc_new ((w.alloc (.cells #[.func (.func K) #[] caps] 59)).alloc (.cells #[.slice none 0 0] 40)) (.cells #[.bool false] 4)
    exact hfr.heap this (by simp)
  clear hf hK
  go_enter Tryz.func24,Tryz.ntmps24
  go_wp2_with fail
  refine H.mono ?_
  clear H
  rintro e w2 ⟨rfl,w1,⟨s,hs,⟨hown,hblk⟩,hfr⟩,rfl⟩
  have hz:w.heap.size+3≤w1.heap.size:=by have:=hfr.size; simp at this; omega
  have hs2:(w1.setCell ⟨w.heap.size+2,0,none⟩ (.bool true)).heap[w.heap.size+1]?=some (.cells #[s] 40 (0,0)):=by
    rw [Below.heap_setCell _ _ _ _ (by simp)]; exact hs
  have hb1:Below w.heap.size w w1:=(hb0 _ _ _).trans (hfr.below (B:=w.heap.size) (fun _ h=>by omega) (by simp; omega))
  have g:∀ u,zXX w.heap.size ((w1.setCell ⟨w.heap.size+2,0,none⟩ (.bool true)).setCell ⟨w.heap.size+1,0,none⟩ u) s ys∧Below w.heap.size w ((w1.setCell ⟨w.heap.size+2,0,none⟩ (.bool true)).setCell ⟨w.heap.size+1,0,none⟩ u):=by
    intro u
    refine ⟨⟨ownsRow_setCell_other (ownsRow_setCell_other hown ?_ _) ?_ _,?_⟩,(hb1.setCell (by simp) _).setCell (by simp) _⟩
    · intro hk; have:=hblk _ hk; simp at this; omega
    · intro hk; have:=hblk _ hk; simp at this; omega
    · intro k hk; have:=hblk _ hk; simp at this; omega
  obtain ⟨ao,n1,cp1,hv1⟩:=zAR hown
  rw [hv1] at g hs2
  have hc3:=cell_of_one hs2
  have hf3:=free_of_one hs2
  have hc4:=cell_of_one (one_setCell (u:=.slice ao n1 cp1) hs2)
  have G:=Lib.hid g
  clear g hs hown hfr hblk hv1 hs2 hb1 hb0
  have e2:∀ o1 o2:Obj,((w.alloc o1).alloc o2).heap.size=w.heap.size+2:=fun o1 o2=>by simp
  go_wp2
  exact bodyPost_ret (v:=.slice ao n1 cp1) (by simp [results,Tryz.results24,go_sem,hc4]) rfl ⟨ao,n1,cp1,rfl,G.out _⟩
end Go.Proofs.YtllaekopaglolaaGreat
end
