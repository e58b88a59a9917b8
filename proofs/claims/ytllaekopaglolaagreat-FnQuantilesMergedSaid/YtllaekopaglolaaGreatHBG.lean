/-
  spec.Sorted walked (printed by gen_sorted.py).
-/
import Derived.Test.YtllaekopaglolaaGreatHBF
import Derived.Deep.RegionLaw
import Derived.RegionTactic
section
namespace Go.Proofs.YtllaekopaglolaaGreat
open Go.RowKit
def Srt (L:Items):Prop:=∀ i j,(hi:i<L.length)→(hj:j<L.length)→i<j→vI L[i].1≤vI L[j].1
theorem zJq {xs L L':Items} {k M x n:Nat} (hL:L'=L.take M++(x,n) :: L.drop M) (hp:L.Perm (xs.take k)) (hs:Srt L) (hM:M≤L.length) (hlo:∀ j,(h:j<L.length)→j<M→vI L[j].1≤vI x)
    (hhi:∀ j,(h:j<L.length)→M≤j→vI x<vI L[j].1) (hx:xs.take (k+1)=xs.take k++[(x,n)]):L'.Perm (xs.take (k+1))∧Srt L':=by
  constructor
  · rw [hL,hx]
    refine (List.perm_middle.trans ?_).trans (List.perm_append_singleton _ _).symm
    rw [List.take_append_drop]
    exact hp.cons _
  · have get:∀ i,(h:i<L'.length)→(i<M∧∃ h2:i<L.length,L'[i]=L[i])∨(i=M∧L'[i]=(x,n))∨(M<i∧∃ h2:i - 1<L.length,L'[i]=L[i - 1]):=by
      intro i h
      subst hL
      have hl:(L.take M).length=M:=by rw [List.length_take]; omega
      rcases Nat.lt_trichotomy i M with h1 | h1 | h1
      · left; refine ⟨h1,by omega,?_⟩
        rw [List.getElem_append_left (by omega),List.getElem_take]
      · right; left; refine ⟨h1,?_⟩
        subst h1
        rw [List.getElem_append_right (by omega)]
        simp [hl]
      · right; right
        have hlen:i - 1<L.length:=by
          rw [List.length_append,hl,List.length_cons,List.length_drop] at h; omega
        refine ⟨h1,hlen,?_⟩
        rw [List.getElem_append_right (by omega)]
        obtain ⟨d,hd⟩:∃ d,i=M+1+d:=⟨i - (M+1),by omega⟩
        subst hd
        simp only [hl,show M+1+d - M=d+1 from by omega,List.getElem_cons_succ,List.getElem_drop]
        congr 1
        omega
    intro i j hi hj hij
    rcases get i hi with ⟨a1,a2,a3⟩ | ⟨a1,a3⟩ | ⟨a1,a2,a3⟩ <;> rcases get j hj with ⟨b1,b2,b3⟩ | ⟨b1,b3⟩ | ⟨b1,b2,b3⟩ <;> rw [a3,b3]
    · exact hs i j a2 b2 hij
    · exact hlo i a2 a1
    · exact Int.le_trans (hlo i a2 a1) (Int.le_of_lt (hhi _ b2 (by omega)))
    · omega
    · omega
    · exact Int.le_of_lt (hhi _ b2 (by omega))
    · omega
    · omega
    · exact hs _ _ a2 b2 (by omega)
def zWO (xs:Items) (w wr:World) (v i:Value):Prop :=
  ∃ k L ar c,k≤xs.length∧i = .int .i64 (k:Int)∧Hid (L.Perm (xs.take k)∧Srt L)∧v = .slice ar L.length c∧OwnQ 38 w wr (.slice ar L.length c) (fi L)
def AtI (L:Items) (b:Int) (W wr:World) (a:Value):Prop :=
  ∃ m q,m≤L.length∧a = .int .i64 (m:Int)∧wr=W.drewN q∧Hid (∀ j,(h:j<L.length)→m≤j→b<vI L[j].1)
theorem Tryz.sizeSI (w:World):(sizeOf 38).run Tryz.prog w = .ok 2 w:=by kernel_rfl
def zHs (xs:Items) (w:World) (e:Ending) (w':World):Prop:=∃ L,L.Perm xs∧Srt L∧zVa 38 (fi L) w e w'
set_option maxRecDepth 100000 in
set_option maxHeartbeats 800000 in
theorem zJM (ao:Option Addr) (cp:Nat) (xs:Items) (w:World) (hl:LieR w ao (fi xs)) (hn:xs.length≤2147483647) (hx:∀ q∈xs,zAU q) :
    Calls Tryz.prog 17 #[.slice ao xs.length cp] w fun e w'=>zHs xs w e w':=by
  have HL:=Lib.hid hl; clear hl
  have HT:=Lib.hid hx; clear hx
  go_enter Tryz.func17,Tryz.ntmps17
  go_wp2
  go_loopw [3,9] (fun v i wr=>zWO xs w wr v i) (fun _ i _=>xs.length - (intOf i).toNat)
  case atStart=>exact ⟨0,[],none,0,by omega,rfl,⟨by rw [List.take_zero],fun i j h=>by cases h⟩,rfl,OwnQ.nil _ _⟩
  case round =>
    obtain ⟨k,L,ar,cr,hk,rfl,HPL,rfl,hown⟩:=hrel
    obtain ⟨hpm,hasc⟩:=HPL.out
    clear HPL
    by_cases hlt:k<xs.length
    · have hbw:=hown.2
      rcases HL.out.later hbw with h0 | ⟨g,off,rfl,hcell⟩
      · have:=congrArg List.length h0; rw [zAK,List.length_nil] at this; omega
      obtain ⟨c0,c1⟩:=hcell k (by rw [zAK]; exact hlt)
      rw [zEg] at c0 c1
      dsimp only at c0 c1
      have hsn:xs.take (k+1)=xs.take k++[xs[k]]:=List.take_succ_eq_append_getElem hlt
      have hlen:L.length=k:=by have:=hpm.length_eq; rw [List.length_take] at this; omega
      have hok:∀ q∈L,zAU q:=fun q hq=>HT.out q (List.mem_of_mem_take (hpm.mem_iff.1 hq))
      have hxk:zAU xs[k]:=HT.out _ (List.getElem_mem hlt)
      have HSN0:=Lib.hid hsn
      have HAS:=Lib.hid hasc
      have HPM:=Lib.hid hpm
      have HLK:Hid (L.length<2147483647):=Lib.hid (by omega)
      have HOK:=Lib.hid hok
      obtain ⟨x,hx⟩:∃ x,x=xs[k].1:=⟨_,rfl⟩
      obtain ⟨n,hnn⟩:∃ n,n=xs[k].2:=⟨_,rfl⟩
      have HXV:Hid (FV x (vI x)):=Lib.hid (by rw [hx]; exact (zAx hxk.lt hxk.fits).1)
      have HSN:Hid (xs.take (k+1)=xs.take k++[(x,n)]):=Lib.hid (by rw [hx,hnn]; exact hsn)
      rw [← hx] at c0
      rw [← hnn] at c1
      have HO:=Lib.hid hown
      have hz:=hbw.size
      clear hsn hasc hpm hx hnn hown hcell hbw hok hxk HSN0 hlen
      have hl2:=zBR HO.out.1.1
      have hB:=heap_alloc_new wr (.cells #[.float .f64 x,.float .f64 (nf n)] 38)
      have hb0:(wr.alloc (.cells #[.float .f64 x,.float .f64 (nf n)] 38)).cell? ⟨wr.heap.size,0,none⟩=some (.float .f64 x):=cell_of_row _ _ 0 _ _ _ hB
      have hb1:(wr.alloc (.cells #[.float .f64 x,.float .f64 (nf n)] 38)).cell? ⟨wr.heap.size,1,none⟩=some (.float .f64 (nf n)):=cell_of_row _ _ 1 _ _ _ hB
      have hlw:(wr.alloc (.cells #[.float .f64 x,.float .f64 (nf n)] 38)).ownsRow 0 38 2 (.slice ar L.length cr) L.length (qc (fi L)):=by
        have:=HO.out.1.1.alloc (.cells #[.float .f64 x,.float .f64 (nf n)] 38)
        rwa [zAK] at this
      have hcr:L.length≤cr:=hl2.2.1
      have HLW:=Lib.hid hlw
      have HBB:=Lib.hid hB
      clear hlw hl2 hB
      go_wp2
      obtain ⟨B,hBB⟩:∃ B,B=wr.heap.size:=⟨_,rfl⟩
      rw [← hBB] at hb0 hb1 ⊢
      have HBE:=Lib.hid hBB
      clear hBB c0 c1
      revert hb0 hb1 HLW HBB
      obtain ⟨wo,hwo⟩:∃ wo,wo=wr.alloc (.cells #[.float .f64 x,.float .f64 (nf n)] 38):=⟨_,rfl⟩
      rw [← hwo]
      have HWO:=Lib.hid hwo
      clear hwo
      intro HLW HBB hb1 hb0
      go_loopw [6] (fun a wr2=>AtI L (vI x) wo wr2 a) (fun a _=>(intOf a).toNat)
      case atStart=>exact ⟨L.length,0,by omega,rfl,rfl,fun j h hm=>by omega⟩
      case round =>
        obtain ⟨m,q,hm,rfl,rfl,HM⟩:=hrel
        by_cases h0:0<m
        · obtain ⟨m,rfl⟩:∃ j,m=j+1:=⟨m - 1,by omega⟩
          obtain ⟨gg,rfl,hcell,hfz⟩:=zDN HLW.out (by rw [zAK]; omega)
          obtain ⟨d0,d1⟩:=hcell m (by rw [zAK]; omega)
          clear hfz
          rw [zEg] at d0 d1
          dsimp only at d0 d1
          have hym:=HOK.out _ (List.getElem_mem (show m<L.length from by omega))
          have hyv:=(zAx hym.lt hym.fits).1
          clear hym
          have i4:m<L.length:=by omega
          obtain ⟨y,hy⟩:∃ y,y=L[m].1:=⟨_,rfl⟩
          rw [← hy] at d0 hyv
          have HY:=Lib.hid hy
          have HYC:=Lib.hid (zBa hyv HXV.out)
          clear hy hcell hyv d1
          have i1:IntKind.i64.wrap (((m+1:Nat):Int) - 1)=(m:Int):=by have:=HLK.out; rw [IntKind.wrap_i64]; omega
          have i6:IntKind.i64.wrap (m:Int)=(m:Int):=by have:=HLK.out; rw [IntKind.wrap_i64]; omega
          have i2:(0:Int)≤(m:Int):=by omega
          have i3:((m:Int)).toNat=m:=by omega
          have i5:(m:Int)<(L.length:Int):=by omega
          have hg0:True:=trivial
          by_cases hgt:vI x<vI y
          · have hgt':(FloatKind.f64.format.order y x == some .gt)=true:=HYC.out.trans (by simpa using hgt)
            go_wp2
            go_quiet (fail)
            have hrel':∀ j,(h:j<L.length)→m≤j→vI x<vI L[j].1:=by
              intro j h hj
              by_cases hjm:j=m
              · subst hjm; rw [← HY.out]; exact hgt
              · exact HM.out j h (by omega)
            have HR:=Lib.hid hrel'
            clear hrel' HM hgt hgt'
            go_wp2
            go_roundw
            case rel=>exact ⟨m,q+nq,by omega,by go_num,rfl,HR.out⟩
            case measure=>simp [intOf]
          · have hgt':(FloatKind.f64.format.order y x == some .gt)=false:=HYC.out.trans (by simpa using hgt)
            have hlo:∀ j,(h:j<L.length)→j<m+1→vI L[j].1≤vI x:=by
              intro j h hj
              by_cases hjm:j=m
              · subst hjm; have:=HY.out; rw [← this]; omega
              · exact Int.le_trans (HAS.out j m h i4 (by omega)) (by rw [← HY.out]; omega)
            have HLO:=Lib.hid hlo
            clear hlo hgt
            go_wp2
            go_quiet (fail)
            go_wp2
            obtain ⟨M,hMM⟩:∃ M,M=m+1:=⟨_,rfl⟩
            have hMl:M≤L.length:=by omega
            rw [← hMM] at HLO HM ⊢
            have HMM:=Lib.hid hMM
            obtain ⟨ar,har⟩:∃ ar,ar=some (⟨gg,0,none⟩:Addr):=⟨_,rfl⟩
            rw [← har] at HLW HO ⊢
            clear HY HYC hMM har i1 i2 i3 i4 i5 i6
            obtain ⟨W,hW⟩:∃ W,W=(wo.drewN q).drewN nq:=⟨_,rfl⟩
            have eb0:W.cell? ⟨B,0,none⟩=some (.float .f64 x):=by rw [hW]; exact hb0
            have eb1:W.cell? ⟨B,1,none⟩=some (.float .f64 (nf n)):=by rw [hW]; exact hb1
            have HOW:Hid (W.ownsRow 0 38 2 (.slice ar L.length cr) L.length (qc (fi L))):=by show World.ownsRow _ _ _ _ _ _ _; rw [hW]; exact HLW.out
            have HBW:Hid (Below w.heap.size w W):=by show Below _ _ _; rw [hW,HWO.out]; exact zBJ (zBJ (HO.out.2.alloc HO.out.2.size _) q) nq
            have hs1:=zCU (P:=Tryz.prog) 24 38 Tryz.underlying24 ar L.length cr M (M:Int) rfl (by omega) Tryz.sizeSI
            obtain ⟨L',hins⟩:∃ L',L'=L.take M++(x,n) :: L.drop M:=⟨_,rfl⟩
            have hps:=zJq hins HPM.out HAS.out hMl HLO.out HM.out HSN.out
            have HPS:=Lib.hid hps
            clear hps
            have HIN:=Lib.hid hins
            have hll:(L').length=L.length+1:=by rw [hins]; simp; omega
            have HLC:=Lib.hid hll
            rw [← hW]
            clear hW hins hll d0 hg0 hgt' hb0 hb1
            obtain ⟨i0,hi,hz0,hz1,hz2⟩:=info_parts Tryz.infoSI
            by_cases hE:M=L.length
            · obtain ⟨ao2,hs2⟩:=zE5 (P:=Tryz.prog) 24 38 Tryz.underlying24 2 ar L.length cr M hE hcr Tryz.sizeSI
              have HE:=Lib.hid hE
              clear hE
              have hr:=heap_alloc_new W (.cells #[.float .f64 x,.float .f64 (nf n)] 38)
              have hnew:∀ j u,(qc [(x,nf n)])[j]?=some u→((W.alloc (.cells #[.float .f64 x,.float .f64 (nf n)] 38)).drew).cell? ((⟨W.heap.size,0,none⟩:Addr).add j)=some u:=zOQ W x (nf n) _
              have howE:((W.alloc (.cells #[.float .f64 x,.float .f64 (nf n)] 38)).drew).ownsRow 0 38 2 (.slice ar M cr) M (qc (fi (L.take M))):=((zDA HOW.out (by omega)).alloc _)
              have HNEW:=Lib.hid hnew
              have HOWE:=Lib.hid howE
              clear hr hnew howE
              go_region_law (first | (rw [if_pos (by rfl)]; refine zEa _ _ _ 24 rfl 38 i0 Tryz.underlying24 hi (.slice (some ⟨W.heap.size,0,none⟩) 1 1) rfl ⟨_,_,_,rfl,Nat.le_refl _⟩ ao2 (cr - M) rfl ?_) | (rw [if_pos (by rfl)]; refine zBI _ _ _ 24 rfl 38 i0 (.agg #[.float .f64 0,.float .f64 0]) 2 16 Tryz.underlying24 hi hz0 hz1 hz2 rfl (by decide) (.slice ar M cr) M (qc (fi (L.take M))) rfl HOWE.out ⟨W.heap.size,0,none⟩ 1 1 (qc [(x,nf n)]) rfl rfl HNEW.out (zFC _) (by have:=HLK.out; unfold maxLen; omega) (by have:=HLK.out; omega) ?_; intro v2 w2 hown2 hgrow2 hblk2))
              have hs:=zFO (ps:=fi (L.take M)++[(x,nf n)]) HBW.out ((Below.refl _ W).alloc (Nat.le_refl _) _).drew (v:=.slice ar M cr) (fun k hk=>HO.out.1.2 k ((zGd _ _ _ _ _).trans hk)) (by rw [zBr]; exact hown2) (by rw [List.length_append,zAK,List.length_take]; simp; omega) hgrow2 hblk2
              obtain ⟨ao3,n3,c3,rfl⟩:=zAR hown2
              obtain rfl:=zAo hown2
              have hfin:fi (L.take M)++[(x,nf n)]=fi (L'):=by
                rw [HIN.out,zDU,HE.out,List.drop_length]; rfl
              rw [hfin] at hs
              have HS:=Lib.hid hs
              clear hs hfin hown2 hgrow2 hblk2 hs1 hs2
              have hMM:M+1=(L').length:=by rw [HLC.out,HE.out]
              rw [hMM] at HS ⊢
              clear hMM
              go_wp2
              go_roundw
              case rel=>exact ⟨k+1,L',ao3,c3,by omega,by go_num,HPS,rfl,HS.out⟩
              case measure=>simp [intOf]; omega
            · have hlt2:M<L.length:=by omega
              have HB2:Hid (W.ownsRow 0 38 2 (.slice ar L.length cr) L.length (qc (fi L))):=HOW
              obtain ⟨g1,har1,-,-⟩:=zDN HOW.out (by rw [zAK]; omega)
              have HAR:=Lib.hid har1
              obtain ⟨ao2,hao2,hs2⟩:=zD6 (P:=Tryz.prog) 24 38 Tryz.underlying24 2 g1 0 L.length cr M hMl hcr Tryz.sizeSI
              rw [← har1] at hs2
              obtain rfl:ao2=some ⟨g1,M*2,none⟩:=by
                rcases hao2 with h | h
                · omega
                · rw [h,Nat.zero_add]
              have hnw:=zH2 (m:=M) (by rw [← har1]; exact HOW.out)
              have hr:=heap_alloc_new W (.cells #[.float .f64 x,.float .f64 (nf n)] 38)
              have howB:((W.alloc (.cells #[.float .f64 x,.float .f64 (nf n)] 38)).drew).ownsRow 0 38 2 (.slice (some ⟨W.heap.size,0,none⟩) 1 1) 1 (qc [(x,nf n)]) :=
                ⟨rfl,.inr ⟨W.heap.size,1,_,rfl,Nat.zero_le _,hr,Nat.le_refl _,by decide,rfl,rfl⟩⟩
              have hnews:∀ j u,(qc (fi (L.drop M)))[j]?=some u→((W.alloc (.cells #[.float .f64 x,.float .f64 (nf n)] 38)).drew).cell? ((⟨g1,M*2,none⟩:Addr).add j)=some u:=by
                intro j u hj
                have h:=hnw j u hj
                show (W.alloc _).cell? _=_
                rw [World.cell?_of_block (Below.heap_alloc _ _ _ (World.block_lt_of_cell? W _ h))]
                exact h
              have hdl:(qc (fi (L.drop M))).length=(L.length - M)*2:=by rw [zBC,zAK,List.length_drop]
              have HNEW:=Lib.hid hnews
              have HOWB:=Lib.hid howB
              have HDL:=Lib.hid hdl
              have hbl:Below W.heap.size W ((W.alloc (.cells #[.float .f64 x,.float .f64 (nf n)] 38)).drew):=((Below.refl _ W).alloc (Nat.le_refl _) _).drew
              have HBL:=Lib.hid hbl
              have hprefix:=zDA HOW.out hMl
              have HPF:=Lib.hid hprefix
              clear hnw hr howB hnews hdl hbl hao2 har1 hprefix
              go_region_law (first | (rw [if_pos (by rfl)]; refine zBI _ _ _ 24 rfl 38 i0 (.agg #[.float .f64 0,.float .f64 0]) 2 16 Tryz.underlying24 hi hz0 hz1 hz2 rfl (by decide) (.slice (some ⟨W.heap.size,0,none⟩) 1 1) 1 (qc [(x,nf n)]) rfl HOWB.out ⟨g1,M*2,none⟩ (L.length - M) (cr - M) (qc (fi (L.drop M))) rfl HDL.out HNEW.out (zFC _) (by have:=HLK.out; unfold maxLen; omega) (by have:=HLK.out; omega) ?_; intro v1 w1 hown1 hgrow1 hblk1; rw [← zBr] at hown1; obtain ⟨ao1,n1,c1,rfl⟩:=zAR hown1; obtain rfl:=zAo hown1; obtain ⟨r1,rfl,-,-⟩:=zDN hown1 (by simp); have HOW1:=Lib.hid hown1; have hbw1:=HBL.out.grown hgrow1 HBL.out.size (fun k hk=>by cases hk; exact Nat.le_refl _); have HBW1:=Lib.hid hbw1; have hp1:=(Fr.of_below hbw1).owns HPF.out (fun k hk=>by have:=zR3 HPF.out k hk; omega); have HP1:=Lib.hid hp1; clear hown1 hgrow1 hblk1 hbw1 hp1) | (rw [if_pos (by rfl)]; refine zBI _ _ _ 24 rfl 38 i0 (.agg #[.float .f64 0,.float .f64 0]) 2 16 Tryz.underlying24 hi hz0 hz1 hz2 rfl (by decide) (.slice ar M cr) M (qc (fi (L.take M))) rfl HP1.out ⟨r1,0,none⟩ (1+(L.length - M)) c1 (qc ([(x,nf n)]++fi (L.drop M))) rfl (by rw [zBC,List.length_append,zAK,List.length_drop]; rfl) (HOW1.out.cells rfl) (zFC _) (by have:=HLK.out; unfold maxLen; omega) (by have:=HLK.out; omega) ?_; intro v2 w2 hown2 hgrow2 hblk2))
              have hs:=zFO (ps:=fi (L.take M)++([(x,nf n)]++fi (L.drop M))) HBW.out HBW1.out (v:=.slice ar M cr) (fun k hk=>HO.out.1.2 k ((zGd _ _ _ _ _).trans hk)) (by rw [zBr]; exact hown2) (by simp [zAK]; omega) hgrow2 hblk2
              obtain ⟨ao3,n3,c3,rfl⟩:=zAR hown2
              obtain rfl:=zAo hown2
              have hfin:fi (L.take M)++([(x,nf n)]++fi (L.drop M))=fi (L'):=by
                rw [HIN.out,zDU]; rfl
              rw [hfin] at hs
              have HS:=Lib.hid hs
              clear hs hfin hown2 hgrow2 hblk2 hs1 hs2
              have hMM:M+(1+(L.length - M))=(L').length:=by rw [HLC.out]; omega
              rw [hMM] at HS ⊢
              clear hMM
              go_wp2
              go_roundw
              case rel=>exact ⟨k+1,L',ao3,c3,by omega,by go_num,HPS,rfl,HS.out⟩
              case measure=>simp [intOf]; omega
        · have hm0:m=0:=by omega
          have HM0:=Lib.hid hm0
          have hg0:¬ (0:Int)<(m:Int):=by omega
          have hg1:decide ((0:Int)<(m:Int))=false:=by simpa using hg0
          have HLO:Hid (∀ j,(h:j<L.length)→j<m→vI L[j].1≤vI x):=fun j h hj=>by omega
          have hg2:decide (0<m)=false:=by simpa using h0
          clear hm0
          go_wp2
          go_quiet (fail)
          go_wp2
          obtain ⟨M,hMM⟩:∃ M,M=m:=⟨_,rfl⟩
          have hMl:M≤L.length:=by omega
          rw [← hMM] at HLO HM ⊢
          clear hMM
          obtain ⟨W,hW⟩:∃ W,W=(wo.drewN q).drewN nq:=⟨_,rfl⟩
          have eb0:W.cell? ⟨B,0,none⟩=some (.float .f64 x):=by rw [hW]; exact hb0
          have eb1:W.cell? ⟨B,1,none⟩=some (.float .f64 (nf n)):=by rw [hW]; exact hb1
          have HOW:Hid (W.ownsRow 0 38 2 (.slice ar L.length cr) L.length (qc (fi L))):=by show World.ownsRow _ _ _ _ _ _ _; rw [hW]; exact HLW.out
          have HBW:Hid (Below w.heap.size w W):=by show Below _ _ _; rw [hW,HWO.out]; exact zBJ (zBJ (HO.out.2.alloc HO.out.2.size _) q) nq
          have hs1:=zCU (P:=Tryz.prog) 24 38 Tryz.underlying24 ar L.length cr M (M:Int) rfl (by omega) Tryz.sizeSI
          obtain ⟨L',hins⟩:∃ L',L'=L.take M++(x,n) :: L.drop M:=⟨_,rfl⟩
          have hps:=zJq hins HPM.out HAS.out hMl HLO.out HM.out HSN.out
          have HPS:=Lib.hid hps
          clear hps
          have HIN:=Lib.hid hins
          have hll:(L').length=L.length+1:=by rw [hins]; simp; omega
          have HLC:=Lib.hid hll
          rw [← hW]
          clear hW hins hll hg0 hg1 hg2 h0 hb0 hb1
          obtain ⟨i0,hi,hz0,hz1,hz2⟩:=info_parts Tryz.infoSI
          by_cases hE:M=L.length
          · obtain ⟨ao2,hs2⟩:=zE5 (P:=Tryz.prog) 24 38 Tryz.underlying24 2 ar L.length cr M hE hcr Tryz.sizeSI
            have HE:=Lib.hid hE
            clear hE
            have hr:=heap_alloc_new W (.cells #[.float .f64 x,.float .f64 (nf n)] 38)
            have hnew:∀ j u,(qc [(x,nf n)])[j]?=some u→((W.alloc (.cells #[.float .f64 x,.float .f64 (nf n)] 38)).drew).cell? ((⟨W.heap.size,0,none⟩:Addr).add j)=some u:=zOQ W x (nf n) _
            have howE:((W.alloc (.cells #[.float .f64 x,.float .f64 (nf n)] 38)).drew).ownsRow 0 38 2 (.slice ar M cr) M (qc (fi (L.take M))):=((zDA HOW.out (by omega)).alloc _)
            have HNEW:=Lib.hid hnew
            have HOWE:=Lib.hid howE
            clear hr hnew howE
            go_region_law (first | (rw [if_pos (by rfl)]; refine zEa _ _ _ 24 rfl 38 i0 Tryz.underlying24 hi (.slice (some ⟨W.heap.size,0,none⟩) 1 1) rfl ⟨_,_,_,rfl,Nat.le_refl _⟩ ao2 (cr - M) rfl ?_) | (rw [if_pos (by rfl)]; refine zBI _ _ _ 24 rfl 38 i0 (.agg #[.float .f64 0,.float .f64 0]) 2 16 Tryz.underlying24 hi hz0 hz1 hz2 rfl (by decide) (.slice ar M cr) M (qc (fi (L.take M))) rfl HOWE.out ⟨W.heap.size,0,none⟩ 1 1 (qc [(x,nf n)]) rfl rfl HNEW.out (zFC _) (by have:=HLK.out; unfold maxLen; omega) (by have:=HLK.out; omega) ?_; intro v2 w2 hown2 hgrow2 hblk2))
            have hs:=zFO (ps:=fi (L.take M)++[(x,nf n)]) HBW.out ((Below.refl _ W).alloc (Nat.le_refl _) _).drew (v:=.slice ar M cr) (fun k hk=>HO.out.1.2 k ((zGd _ _ _ _ _).trans hk)) (by rw [zBr]; exact hown2) (by rw [List.length_append,zAK,List.length_take]; simp; omega) hgrow2 hblk2
            obtain ⟨ao3,n3,c3,rfl⟩:=zAR hown2
            obtain rfl:=zAo hown2
            have hfin:fi (L.take M)++[(x,nf n)]=fi (L'):=by
              rw [HIN.out,zDU,HE.out,List.drop_length]; rfl
            rw [hfin] at hs
            have HS:=Lib.hid hs
            clear hs hfin hown2 hgrow2 hblk2 hs1 hs2
            have hMM:M+1=(L').length:=by rw [HLC.out,HE.out]
            rw [hMM] at HS ⊢
            clear hMM
            go_wp2
            go_roundw
            case rel=>exact ⟨k+1,L',ao3,c3,by omega,by go_num,HPS,rfl,HS.out⟩
            case measure=>simp [intOf]; omega
          · have hlt2:M<L.length:=by omega
            have HB2:Hid (W.ownsRow 0 38 2 (.slice ar L.length cr) L.length (qc (fi L))):=HOW
            obtain ⟨g1,har1,-,-⟩:=zDN HOW.out (by rw [zAK]; omega)
            have HAR:=Lib.hid har1
            obtain ⟨ao2,hao2,hs2⟩:=zD6 (P:=Tryz.prog) 24 38 Tryz.underlying24 2 g1 0 L.length cr M hMl hcr Tryz.sizeSI
            rw [← har1] at hs2
            obtain rfl:ao2=some ⟨g1,M*2,none⟩:=by
              rcases hao2 with h | h
              · omega
              · rw [h,Nat.zero_add]
            have hnw:=zH2 (m:=M) (by rw [← har1]; exact HOW.out)
            have hr:=heap_alloc_new W (.cells #[.float .f64 x,.float .f64 (nf n)] 38)
            have howB:((W.alloc (.cells #[.float .f64 x,.float .f64 (nf n)] 38)).drew).ownsRow 0 38 2 (.slice (some ⟨W.heap.size,0,none⟩) 1 1) 1 (qc [(x,nf n)]) :=
              ⟨rfl,.inr ⟨W.heap.size,1,_,rfl,Nat.zero_le _,hr,Nat.le_refl _,by decide,rfl,rfl⟩⟩
            have hnews:∀ j u,(qc (fi (L.drop M)))[j]?=some u→((W.alloc (.cells #[.float .f64 x,.float .f64 (nf n)] 38)).drew).cell? ((⟨g1,M*2,none⟩:Addr).add j)=some u:=by
              intro j u hj
              have h:=hnw j u hj
              show (W.alloc _).cell? _=_
              rw [World.cell?_of_block (Below.heap_alloc _ _ _ (World.block_lt_of_cell? W _ h))]
              exact h
            have hdl:(qc (fi (L.drop M))).length=(L.length - M)*2:=by rw [zBC,zAK,List.length_drop]
            have HNEW:=Lib.hid hnews
            have HOWB:=Lib.hid howB
            have HDL:=Lib.hid hdl
            have hbl:Below W.heap.size W ((W.alloc (.cells #[.float .f64 x,.float .f64 (nf n)] 38)).drew):=((Below.refl _ W).alloc (Nat.le_refl _) _).drew
            have HBL:=Lib.hid hbl
            have hprefix:=zDA HOW.out hMl
            have HPF:=Lib.hid hprefix
            clear hnw hr howB hnews hdl hbl hao2 har1 hprefix
            go_region_law (first | (rw [if_pos (by rfl)]; refine zBI _ _ _ 24 rfl 38 i0 (.agg #[.float .f64 0,.float .f64 0]) 2 16 Tryz.underlying24 hi hz0 hz1 hz2 rfl (by decide) (.slice (some ⟨W.heap.size,0,none⟩) 1 1) 1 (qc [(x,nf n)]) rfl HOWB.out ⟨g1,M*2,none⟩ (L.length - M) (cr - M) (qc (fi (L.drop M))) rfl HDL.out HNEW.out (zFC _) (by have:=HLK.out; unfold maxLen; omega) (by have:=HLK.out; omega) ?_; intro v1 w1 hown1 hgrow1 hblk1; rw [← zBr] at hown1; obtain ⟨ao1,n1,c1,rfl⟩:=zAR hown1; obtain rfl:=zAo hown1; obtain ⟨r1,rfl,-,-⟩:=zDN hown1 (by simp); have HOW1:=Lib.hid hown1; have hbw1:=HBL.out.grown hgrow1 HBL.out.size (fun k hk=>by cases hk; exact Nat.le_refl _); have HBW1:=Lib.hid hbw1; have hp1:=(Fr.of_below hbw1).owns HPF.out (fun k hk=>by have:=zR3 HPF.out k hk; omega); have HP1:=Lib.hid hp1; clear hown1 hgrow1 hblk1 hbw1 hp1) | (rw [if_pos (by rfl)]; refine zBI _ _ _ 24 rfl 38 i0 (.agg #[.float .f64 0,.float .f64 0]) 2 16 Tryz.underlying24 hi hz0 hz1 hz2 rfl (by decide) (.slice ar M cr) M (qc (fi (L.take M))) rfl HP1.out ⟨r1,0,none⟩ (1+(L.length - M)) c1 (qc ([(x,nf n)]++fi (L.drop M))) rfl (by rw [zBC,List.length_append,zAK,List.length_drop]; rfl) (HOW1.out.cells rfl) (zFC _) (by have:=HLK.out; unfold maxLen; omega) (by have:=HLK.out; omega) ?_; intro v2 w2 hown2 hgrow2 hblk2))
            have hs:=zFO (ps:=fi (L.take M)++([(x,nf n)]++fi (L.drop M))) HBW.out HBW1.out (v:=.slice ar M cr) (fun k hk=>HO.out.1.2 k ((zGd _ _ _ _ _).trans hk)) (by rw [zBr]; exact hown2) (by simp [zAK]; omega) hgrow2 hblk2
            obtain ⟨ao3,n3,c3,rfl⟩:=zAR hown2
            obtain rfl:=zAo hown2
            have hfin:fi (L.take M)++([(x,nf n)]++fi (L.drop M))=fi (L'):=by
              rw [HIN.out,zDU]; rfl
            rw [hfin] at hs
            have HS:=Lib.hid hs
            clear hs hfin hown2 hgrow2 hblk2 hs1 hs2
            have hMM:M+(1+(L.length - M))=(L').length:=by rw [HLC.out]; omega
            rw [hMM] at HS ⊢
            clear hMM
            go_wp2
            go_roundw
            case rel=>exact ⟨k+1,L',ao3,c3,by omega,by go_num,HPS,rfl,HS.out⟩
            case measure=>simp [intOf]; omega
    · obtain rfl:k=xs.length:=by omega
      have HO:=Lib.hid hown
      rw [List.take_length] at hpm
      clear hown hlt
      go_wp2
      go_ret
      exact ⟨L,hpm,hasc,ar,cr,by rw [zAK]; rfl,by rw [zAK]; exact HO.out⟩
end Go.Proofs.YtllaekopaglolaaGreat
end
/-
  spec.Count,spec.Sum: what they hand back.
-/
section
namespace Go.Proofs.YtllaekopaglolaaGreat
open Go.RowKit
open Ieee
set_option exponentiation.threshold 5000
theorem zE2 (xs:Items) (k:Nat):totC (xs.take k)≤totC xs:=by
  have:=zBc (xs.take k) (xs.drop k)
  rw [List.take_append_drop] at this
  omega
theorem zCV (xs:Items) (k:Nat) (h:k<xs.length):totC (xs.take (k+1))=totC (xs.take k)+xs[k].2:=by
  rw [List.take_succ_eq_append_getElem h,zBc]; simp [totC]
def zVL (xs:Items) (w wr:World) (v i:Value):Prop :=
  ∃ k,k≤xs.length∧i = .int .i64 (k:Int)∧v = .float .f64 (nf (totC (xs.take k)))∧Below w.heap.size w wr
set_option maxRecDepth 100000 in
set_option maxHeartbeats 400000 in
theorem zIO (ao:Option Addr) (cp:Nat) (xs:Items) (w:World) (hl:LieR w ao (fi xs)) (hn:xs.length≤2147483647) (ht:totC xs<9007199254740992) :
    Calls Tryz.prog 18 #[.slice ao xs.length cp] w fun e w'=>e = .returned (.float .f64 (nf (totC xs)))∧Below w.heap.size w w':=by
  have HL:=Lib.hid hl; clear hl
  have HT:=Lib.hid ht; clear ht
  go_enter Tryz.func18,Tryz.ntmps18
  go_wp2
  go_loopw [3,8] (fun v i wr=>zVL xs w wr v i) (fun _ i _=>xs.length - (intOf i).toNat)
  case atStart=>exact ⟨0,by omega,rfl,by rw [List.take_zero,totC,zAp],Below.refl _ _⟩
  case round =>
    obtain ⟨k,hk,rfl,rfl,hb⟩:=hrel
    by_cases hlt:k<xs.length
    · rcases HL.out.later hb with h0 | ⟨g,off,rfl,hcell⟩
      · have:=congrArg List.length h0; rw [zAK,List.length_nil] at this; omega
      obtain ⟨c0,c1⟩:=hcell k (by rw [zAK]; exact hlt)
      rw [zEg] at c0 c1
      dsimp only at c0 c1
      have hadd:=fun w:World=>run_float_arith (P:=Tryz.prog) w .add 29 .f64 _ _ _ (zAz (totC (xs.take k)) xs[k].2 (by have:=zCV xs k hlt; have:=zE2 xs (k+1); have:=HT.out; omega))
      rw [← zCV xs k hlt] at hadd
      obtain ⟨b,hbb⟩:∃ b,b=nf xs[k].2:=⟨_,rfl⟩
      obtain ⟨x,hx⟩:∃ x,x=xs[k].1:=⟨_,rfl⟩
      rw [← hbb] at c1 hadd
      rw [← hx] at c0
      have HB:=Lib.hid hb
      have hz:=hb.size
      clear hbb hx hb hcell
      go_wp2
      go_roundw
      case rel=>exact ⟨k+1,by omega,by go_num,rfl,HB.out.alloc hz _⟩
      case measure=>simp [intOf]; omega
    · obtain rfl:k=xs.length:=by omega
      have HB:=Lib.hid hb
      clear hb hlt
      go_wp2
      go_ret
      exact ⟨by rw [List.take_length]; rfl,HB.out⟩
theorem zSD {M:Rat} {xs:Items} {l:Nat} (h3:NInv l (sumI xs) M (xs.length:Nat)) {q:Nat × Nat} (hq:zAU q) (hM:qv (absI (xs++[q]))≤M) (hl:xs.length<900) :
    ∃ x l',fmul q.1 (nf q.2)=some x∧fadd l x=some l'∧NInv l' (sumI (xs++[q])) M ((xs++[q]).length:Nat):=by
  obtain ⟨x,X,hx,fx,hX⟩:=zG2 hq
  have ea:absI (xs++[q])=absI xs+((eI q).natAbs:Int):=by rw [zC2]; show _+(_+0)=_; omega
  have es:sumI (xs++[q])=sumI xs+eI q:=by rw [zEi]; show _+(_+0)=_; omega
  have hn:=zBk xs
  have hle:=zKR (xs++[q])
  have b1:-M≤qv (eI q):=by
    have h1:=zA9 (show -absI (xs++[q])≤eI q by omega)
    rw [zCr] at h1; grind
  have b2:qv (eI q)≤M:=by
    have h1:=zA9 (show eI q≤absI (xs++[q]) by omega)
    grind
  have n1:-M≤qv (sumI xs+eI q):=by
    rw [← es]
    have h1:=zA9 hle.1
    rw [zCr] at h1; grind
  have n2:qv (sumI xs+eI q)≤M:=by
    rw [← es]
    have h1:=zA9 hle.2
    grind
  obtain ⟨x1,x2⟩:=hX M b1 b2
  have hk:((xs.length:Nat):Rat)+1≤1000:=by
    have:((xs.length:Nat):Rat)≤((900:Nat):Rat):=Rat.natCast_le_natCast.2 (by omega)
    have e:((900:Nat):Rat)=900:=rfl
    rw [e] at this; grind
  obtain ⟨l',hl',i2⟩:=zJB h3 fx x1 x2 b1 b2 n1 n2 hk
  have el:(((xs++[q]).length:Nat):Rat)=((xs.length:Nat):Rat)+1:=by rw [List.length_append]; exact Rat.natCast_add _ _
  exact ⟨x,l',hx,hl',by rw [es,el]; exact i2⟩
theorem zN6 {M:Rat} (h0:0≤M) (h1:M≤1099511627776):NInv 0 (sumI []) M (([]:Items).length:Nat):=by
  have e:qv 0=0:=by unfold qv; grind
  have e2:sumI []=0:=rfl
  have e3:((([]:Items).length:Nat):Rat)=0:=rfl
  have f0:FV 0 0:=by have:=zFq 0 (by omega); rw [zAp] at this; simpa using this
  rw [e2,e3]
  exact ⟨h0,h1,by grind,by grind,by rw [e]; grind,by rw [e]; grind,0,f0,by rw [e]; grind,by rw [e]; grind⟩
def zWN (M:Rat) (xs:Items) (w wr:World) (v i:Value):Prop :=
  ∃ k l,k≤xs.length∧i = .int .i64 (k:Int)∧v = .float .f64 l∧Hid (NInv l (sumI (xs.take k)) M ((xs.take k).length:Nat))∧Below w.heap.size w wr
set_option maxRecDepth 100000 in
set_option maxHeartbeats 400000 in
theorem zTo (ao:Option Addr) (cp:Nat) (xs:Items) (M:Rat) (w:World) (hl:LieR w ao (fi xs)) (hn:xs.length≤400) (hx:∀ q∈xs,zAU q) (h0:0≤M) (h1:M≤1099511627776) (hM:qv (absI xs)≤M) :
    Calls Tryz.prog 21 #[.slice ao xs.length cp] w fun e w'=>∃ l,e = .returned (.float .f64 l)∧NInv l (sumI xs) M (xs.length:Nat)∧Below w.heap.size w w':=by
  have HL:=Lib.hid hl; clear hl
  have HX:=Lib.hid hx; clear hx
  have HM:=Lib.hid hM; clear hM
  have H0:=Lib.hid (zN6 h0 h1); clear h0 h1
  go_enter Tryz.func21,Tryz.ntmps21
  go_wp2
  go_loopw [3,8] (fun v i wr=>zWN M xs w wr v i) (fun _ i _=>xs.length - (intOf i).toNat)
  case atStart=>exact ⟨0,0,by omega,rfl,rfl,by rw [List.take_zero]; exact H0,Below.refl _ _⟩
  case round =>
    obtain ⟨k,l,hk,rfl,rfl,HN,hb⟩:=hrel
    by_cases hlt:k<xs.length
    · rcases HL.out.later hb with h0 | ⟨g,off,rfl,hcell⟩
      · have:=congrArg List.length h0; rw [zAK,List.length_nil] at this; omega
      obtain ⟨c0,c1⟩:=hcell k (by rw [zAK]; exact hlt)
      rw [zEg] at c0 c1
      dsimp only at c0 c1
      have hsn:xs.take (k+1)=xs.take k++[xs[k]]:=List.take_succ_eq_append_getElem hlt
      obtain ⟨p,l',hp,hl',hst⟩:=zSD HN.out (HX.out _ (List.getElem_mem hlt)) (by
        rw [← hsn]
        have h1:=zA9 (zHn xs (k+1))
        have:=HM.out
        grind) (by rw [List.length_take]; omega)
      rw [← hsn] at hst
      have HS:=Lib.hid hst
      have q1:=fun w:World=>run_float_arith (P:=Tryz.prog) w .mul 29 .f64 _ _ _ hp
      have q2:=fun w:World=>run_float_arith (P:=Tryz.prog) w .add 29 .f64 _ _ _ hl'
      obtain ⟨b,hbb⟩:∃ b,b=nf xs[k].2:=⟨_,rfl⟩
      obtain ⟨x,hx⟩:∃ x,x=xs[k].1:=⟨_,rfl⟩
      rw [← hbb] at c1 q1
      rw [← hx] at c0 q1
      have HB:=Lib.hid hb
      have hz:=hb.size
      clear hbb hx hb hcell hp hl' hst hsn HN
      go_wp2
      go_roundw
      case rel=>exact ⟨k+1,l',by omega,by go_num,rfl,HS,HB.out.alloc hz _⟩
      case measure=>simp [intOf]; omega
    · obtain rfl:k=xs.length:=by omega
      have HB:=Lib.hid hb
      clear hb hlt
      go_wp2
      go_ret
      exact ⟨l,rfl,by have:=HN.out; rwa [List.take_length] at this,HB.out⟩
end Go.Proofs.YtllaekopaglolaaGreat
end
