/-
  The store with pages: compact.
-/
import Derived.Test.YtllaekopaglolaaGreatHAY
section
namespace Go.Proofs.YtllaekopaglolaaGreat
open Go.RowKit
variable {tg:Int}
def Comp (tg:Int) (F:Int→Nat) (L0 p:Nat) (ao:Option Addr) (cb:Nat) (S:Nat→Prop) (g0:Nat) (l:List Int) (w wr:World):Prop :=
  ∃ (G:Int→Nat) (q:Int→Option (Nat × Nat)) (mp:Int) (n:Nat) (pgs:Value),zAH tg G l q mp n p (.slice ao l.length cb) pgs wr∧both G l=F∧InI l∧l.length≤L0∧Fr S w wr∧(∀ b,zAS q p (.slice ao l.length cb) pgs b→S b∨g0≤b)
def zWZ (tg:Int) (F:Int→Nat) (L0 p:Nat) (ao:Option Addr) (cb:Nat) (S:Nat→Prop) (g0:Nat) (w wr:World) (i:Value):Prop :=
  ∃ (pos:Nat) (l:List Int),pos≤l.length∧i = .int .i64 (pos:Int)∧Comp tg F L0 p ao cb S g0 l w wr
def zWQ (l:List Int) (pos:Nat) (pi:Int) (w wr:World) (i:Value):Prop :=
  ∃ e:Nat,pos<e∧e≤l.length∧i = .int .i64 (e:Int)∧Hid (∀ k,(hk:k<l.length)→pos≤k→k<e→l[k] / 32=pi)∧wr=w
def zVY (tg:Int) (G:Int→Nat) (l:List Int) (q:Int→Option (Nat × Nat)) (mp:Int) (n p:Nat) (bufv pgs:Value) (pos e b:Nat) (w wr:World) (i:Value):Prop :=
  ∃ m:Nat,m≤e - pos∧i = .int .i64 (m:Int)∧zAH tg (fun x=>G x+cntI ((l.drop pos).take m) x) l q mp n p bufv pgs wr∧Fr (fun k=>k=b) w wr
theorem Tryz.oneInt:(Tryz.prog.info? 3).map (·.size)=some 1:=by kernel_rfl
theorem zDL {P:Program} (t e:TypeId) (ht:P.underlying t=some (.slice e)) (g n c lo:Nat) (h1:lo≤n) (h2:n≤c) (hz:∀ w,(sizeOf e).run P w = .ok 1 w) :
    ∃ ad:Addr,(∀ w,(Instr.slice t (.slice (some ⟨g,0,none⟩) n c) (some (.int .i64 (lo:Int))) none none).run P w = .ok (.slice (some ad) (n - lo) (c - lo)) w)∧(lo<n→ad=⟨g,lo,none⟩):=by
  by_cases h:lo<c
  · exact ⟨_,fun w=>zB7 t e ht g n c lo h1 h hz w,fun _=>rfl⟩
  · have e1:c=lo:=by omega
    have e2:n=lo:=by omega
    subst e1
    subst e2
    refine ⟨⟨g,0,none⟩,fun w=>?_,fun h=>absurd h (Nat.lt_irrefl _)⟩
    simp [Instr.slice,run_underlying ht,Instr.sliceBounds,go_sem,hz]
theorem zAH.drew {G:Int→Nat} {bs:List Int} {q:Int→Option (Nat × Nat)} {mp:Int} {n p:Nat} {bufv pgs:Value} {w:World} (h:zAH tg G bs q mp n p bufv pgs w):zAH tg G bs q mp n p bufv pgs w.drew:=⟨h.core.drew,h.inside,h.bd⟩
def zHl (w:World) (p:Nat):Nat:=match w.cell? ⟨p,0,none⟩ with | some (.slice _ n _)=>n | _=>0
theorem zEI {tg:Int} {G:Int→Nat} {l:List Int} {q:Int→Option (Nat × Nat)} {mp:Int} {n p:Nat} {ao:Option Addr} {cb:Nat} {pgs:Value} {w:World} (h:zAH tg G l q mp n p (.slice ao l.length cb) pgs w):zHl w p=l.length:=by
  unfold zHl; rw [h.core.fields.cells.1]
def zXx (F:Int→Nat) (L0 p:Nat) (ao:Option Addr) (cb:Nat) (S:Nat→Prop) (g0:Nat) (w:World) (e:Ending) (w':World):Prop :=
  e = .returned (.tuple #[])∧∃ tg' l,Comp tg' F L0 p ao cb S g0 l w w'
theorem zAH.setTg {G:Int→Nat} {bs:List Int} {q:Int→Option (Nat × Nat)} {mp:Int} {n p:Nat} {bufv pgs:Value} {w:World} (h:zAH tg G bs q mp n p bufv pgs w) (t:Int):zAH t G bs q mp n p bufv pgs (w.setCell ⟨p,1,none⟩ (.int .i64 t)):=by
  refine ⟨⟨(heap_setCell_same w p 1 _ _ _ h.core.fields).trans rfl,ownsRow_setCell_other h.core.buf (fun e=>?_) _,ownsRow_setCell_other h.core.row (fun e=>?_) _,fun x b cp hx=>?_,h.core.zero,h.core.inj⟩,h.inside,h.bd⟩
  · obtain ⟨_,hc⟩:=zAW h.core.buf e; exact zAr hc h.core.fields (by decide) rfl
  · obtain ⟨_,hc⟩:=zAW h.core.row e; exact zAr hc h.core.fields (by decide) rfl
  · obtain ⟨_,hc,_⟩:=(h.core.page x b cp hx).block
    exact (h.core.page x b cp hx).other (fun e=>zAr hc h.core.fields (by decide) e.symm) _
set_option maxRecDepth 100000 in
set_option maxHeartbeats 2000000 in
theorem zEw (G0:Int→Nat) (bs0:List Int) (q0:Int→Option (Nat × Nat)) (mp0:Int) (n0 p:Nat) (ao:Option Addr) (cb:Nat) (pgs0:Value) (w:World) (h0:zAH tg G0 bs0 q0 mp0 n0 p (.slice ao bs0.length cb) pgs0 w)
   (hI0:InI bs0) (hF:∀ x,both G0 bs0 x<1000000000) (hl0:bs0.length<1000000000) :
    Calls Tryz.prog 266 #[.pointer (some ⟨p,0,none⟩)] w fun e w'=>zXx (both G0 bs0) bs0.length p ao cb (zAS q0 p (.slice ao bs0.length cb) pgs0) w.heap.size w e w':=by
  have hsort:=zGu G0 bs0 q0 mp0 n0 p _ pgs0 w h0 (by omega)
  obtain ⟨-,-,-,-,d4,-⟩:=h0.core.fields.cells
  have HI0:=Lib.hid hI0
  have HF:=Lib.hid hF
  obtain ⟨S,hS⟩:∃ S:Nat→Prop,S=zAS q0 p (.slice ao bs0.length cb) pgs0:=⟨_,rfl⟩
  obtain ⟨F,hFF⟩:∃ F,F=both G0 bs0:=⟨_,rfl⟩
  obtain ⟨L0,hL⟩:∃ L0,L0=bs0.length:=⟨_,rfl⟩
  rw [← hS,← hFF,← hL]
  have HSS:=Lib.hid hS
  have HFF:=Lib.hid hFF
  have HLL:=Lib.hid hL
  clear h0 hI0 hF hS hFF hL
  go_enter Tryz.func266,Tryz.ntmps266
  go_wp2_with fail
  refine hsort.mono ?_
  clear hsort d4
  rintro e w1 ⟨bs,rfl,hperm,hs,h,hfr⟩
  have hcomp:Comp tg F L0 p ao cb S w.heap.size bs w w1:=by
    have hS:=HSS.out
    have hFF:=HFF.out
    have hL:=HLL.out
    refine ⟨G0,q0,mp0,n0,pgs0,by rw [hperm.length_eq]; exact h,?_,fun b hb=>HI0.out b (hperm.mem_iff.1 hb),by rw [hL,hperm.length_eq]; exact Nat.le_refl _,hfr.mono (fun k _ hk=>by rw [hS]; exact .inr (.inl hk)),fun b hb=>.inl (by rw [hS]; rw [hperm.length_eq] at hb; exact hb)⟩
    rw [hFF]
    show (fun i=>G0 i+cntI bs i)=fun i=>G0 i+cntI bs0 i
    rw [zFc hperm]
  rw [← HFF.out] at HF
  rw [← HLL.out] at hl0
  have HC:=Lib.hid hcomp
  clear hperm hs h hfr hcomp HI0 HSS HFF HLL
  go_wp2
  go_loopw [3] (fun i wr=>zWZ tg F L0 p ao cb S w.heap.size w wr i) (fun i wr=>zHl wr p - (intOf i).toNat)
  case atStart=>exact ⟨0,bs,Nat.zero_le _,rfl,HC.out⟩
  case round =>
    obtain ⟨pos,l,hpos,rfl,G,q,mp,n,pgs,hP,hb,hI,hlen,hfr,hft⟩:=hrel
    obtain ⟨d0,d1,d2,d3,d4,d5⟩:=hP.core.fields.cells
    have HBL:=Lib.hid (zEI hP)
    have HP:=Lib.hid hP
    have HB:=Lib.hid hb
    have HI:=Lib.hid hI
    have HFR:=Lib.hid hfr
    have HFT:=Lib.hid hft
    by_cases hlt:pos<l.length
    · obtain ⟨g,rfl,hc⟩:=zHk hP.core.buf (by omega)
      have hcb:l.length≤cb:=by
        rcases hP.core.buf.2 with ⟨h1,_⟩ | ⟨g',cap,cur,h1,h2,h3,h4,h5,h6,h7⟩
        · cases h1
        · cases h1; exact h4
      have HPI:=fun x w h4=>zCB p x w h4
      have HLI:=fun x w h5=>zDk p x w h5
      have c0:=hc pos hlt
      have hltI:(pos:Int)<(l.length:Int):=by omega
      have i1:IntKind.i64.wrap ((pos:Int)+1)=(pos:Int)+1:=by rw [IntKind.wrap_i64]; omega
      have hin:=hI l[pos] (List.getElem_mem hlt)
      obtain ⟨x,hx⟩:∃ x,x=l[pos]:=⟨_,rfl⟩
      obtain ⟨pi,hpi⟩:∃ pi,pi=x / 32:=⟨_,rfl⟩
      rw [← hx] at c0 hin
      have hPX:=HPI x wr d4
      rw [← hpi] at hPX
      have HX:=Lib.hid hx
      have HPX:=Lib.hid hpi
      have hp1:-320≤pi:=by omega
      have hp2:pi≤320:=by omega
      have HCC:=Lib.hid hc
      clear hP hb hI hfr hft hx hpi hc hin
      go_wp2_with (go_at_call 264; (with_reducible refine hPX.mono ?_); rintro e w' ⟨rfl,rfl⟩; clear hPX c0)
      go_loopw [3] (fun i w2=>zWQ l pos pi wr w2 i) (fun i _=>l.length - (intOf i).toNat)
      case atStart=>exact ⟨pos+1,by omega,by omega,by go_num,(fun k hk h1 h2=>by obtain rfl:k=pos:=(by omega); rw [HPX.out,HX.out]),rfl⟩
      case round =>
        obtain ⟨e,he1,he2,rfl,hrun,rfl⟩:=hrel
        obtain ⟨d0,-,-,-,d4,-⟩:=HP.out.core.fields.cells
        by_cases hel:e<l.length
        · have c1:=HCC.out e hel
          have helI:(e:Int)<(l.length:Int):=by omega
          have i2:IntKind.i64.wrap ((e:Int)+1)=(e:Int)+1:=by rw [IntKind.wrap_i64]; omega
          obtain ⟨z,hz⟩:∃ z,z=l[e]:=⟨_,rfl⟩
          rw [← hz] at c1
          have hPZ:=HPI z wr d4
          by_cases hzp:z / 32=pi
          · rw [hzp] at hPZ
            have hrun2:Hid (∀ k,(hk:k<l.length)→pos≤k→k<e+1→l[k] / 32=pi):=fun k hk h1 h2=>by
              by_cases c:k<e
              · exact hrun.out k hk h1 c
              · obtain rfl:k=e:=by omega
                rw [← hz]; exact hzp
            clear hz hzp
            go_wp2_with (go_at_call 264; (with_reducible refine hPZ.mono ?_); rintro e9 w9 ⟨rfl,rfl⟩; clear hPZ c1)
            go_roundw
            case rel=>exact ⟨e+1,by omega,by omega,by go_num,hrun2,rfl⟩
            case measure=>simp [intOf]; omega
          · obtain ⟨zp,hzp2⟩:∃ zp,zp=z / 32:=⟨_,rfl⟩
            rw [← hzp2] at hPZ hzp
            have z1:decide (zp=pi)=false:=by simpa using hzp
            have z2:(zp == pi)=false:=by simpa using hzp
            clear hz hzp2
            obtain ⟨dd,hdd⟩:∃ dd,dd=e - pos:=⟨_,rfl⟩
            have j1:IntKind.i64.wrap ((e:Int) - (pos:Int))=(dd:Int):=by rw [IntKind.wrap_i64]; omega
            have j2:IntKind.i64.wrap ((dd:Int)*64)=(dd:Int)*64:=by rw [IntKind.wrap_i64]; omega
            have j0:(e:Int) - (pos:Int)=(dd:Int):=by omega
            have HDD:=Lib.hid hdd
            clear hdd
            obtain ⟨ens,hens⟩:∃ ens,decide ((2048:Int)≤(dd:Int)*64)=ens:=⟨_,rfl⟩
            rcases zJW G l q mp n p _ pgs pi ens wr HP.out hp1 hp2 with hA | hB
            · have HA:=Lib.hid hA
              clear hA
              go_wp2_with (first | (go_at_call 264; (with_reducible refine hPZ.mono ?_); rintro e9 w9 ⟨rfl,rfl⟩; clear hPZ c1) | (go_at_call 263; (with_reducible refine HA.out.mono ?_); rintro e9 w2 ⟨q2,mp2,n2,pgs2,b,cp,rfl,hP2,hq2,hfr2,hft2⟩; have d0:=hP2.core.fields.cells.1; have HP2:=Lib.hid hP2; have HQ2:=Lib.hid hq2; have HF2:=Lib.hid hfr2; have HT2:=Lib.hid hft2; have hsl:=zDc (P:=Tryz.prog) 128 3 Tryz.underlying128 g l.length cb pos e (by omega) (by omega) (by omega) Tryz.sizeInt; rw [← HDD.out] at hsl; clear hP2 hq2 hfr2 hft2 HA))
              clear hsl d0
              go_loopw [82] (fun i w3=>zVY tg G l q2 mp2 n2 p (.slice (some ⟨g,0,none⟩) l.length cb) pgs2 pos e b w2 w3 i) (fun i _=>dd - (intOf i).toNat)
              case atStart =>
                refine ⟨0,Nat.zero_le _,rfl,?_,Fr.refl _ _⟩
                have e0:(fun x=>G x+cntI ((l.drop pos).take 0) x)=G:=by funext x; show G x+0=G x; omega
                rw [e0]; exact HP2.out
              case round =>
                obtain ⟨m,hm,rfl,hP3,hf3⟩:=hrel
                obtain ⟨d0,-,-,-,d4,d5⟩:=hP3.core.fields.cells
                by_cases hm2:m<dd
                · have hdd:=HDD.out
                  have hk:pos+m<l.length:=by omega
                  obtain ⟨g9,hg9,hc3⟩:=zHk hP3.core.buf (by omega)
                  cases hg9
                  have c3:=hc3 (pos+m) hk
                  have hyp:=hrun.out (pos+m) hk (by omega) (by omega)
                  have htk:(l.drop pos).take (m+1)=(l.drop pos).take m++[l[pos+m]]:=by
                    rw [List.take_succ_eq_append_getElem (by rw [List.length_drop]; omega),List.getElem_drop]
                  obtain ⟨y,hy⟩:∃ y,y=l[pos+m]:=⟨_,rfl⟩
                  rw [← hy] at c3 hyp htk
                  obtain ⟨j,hj⟩:∃ j:Nat,(j:Int)=y % 32:=⟨(y % 32).toNat,by omega⟩
                  have hrow:=hP3.core.page _ _ _ HQ2.out
                  have hj32:(j:Int)<32:=by omega
                  have hcl:=hrow.cell j (by omega)
                  have hfl:=hrow.free j
                  rw [show 32*pi+(j:Int)=y from by omega] at hcl
                  have hbnd:G y+cntI ((l.drop pos).take m) y+1<9007199254740992:=by
                    have h1:G y+cntI l y=F y:=congrFun HB.out y
                    have h2:=HF.out y
                    have h3:=zNT ((l.drop pos).take m) y
                    rw [List.length_take,List.length_drop] at h3
                    omega
                  have hadd:=fun w:World=>run_float_arith (P:=Tryz.prog) w .add 29 .f64 _ _ _ (zAz _ 1 hbnd)
                  rw [zCs] at hadd
                  have hset:=hP3.addTo y 1 j hj (by rw [hyp]; exact HQ2.out)
                  have hfun:zAe (fun x=>G x+cntI ((l.drop pos).take m) x) y 1=fun x=>G x+cntI ((l.drop pos).take (m+1)) x:=by
                    funext x
                    rw [htk,zFb]
                    unfold zAe
                    split
                    · rw [Nat.add_assoc]
                    · rfl
                  rw [hfun] at hset
                  have hLI:=HLI y wr d5
                  rw [← hj] at hLI
                  obtain ⟨u,hu⟩:∃ u,u=nf (G y+cntI ((l.drop pos).take m) y):=⟨_,rfl⟩
                  obtain ⟨v,hv⟩:∃ v,v=nf (G y+cntI ((l.drop pos).take m) y+1):=⟨_,rfl⟩
                  rw [← hu] at hcl hadd
                  rw [← hv] at hadd hset
                  have HSET:=Lib.hid hset
                  have HF3:=Lib.hid hf3
                  have hmI:(m:Int)<(dd:Int):=by omega
                  have i5:IntKind.i64.wrap ((m:Int)+1)=(m:Int)+1:=by rw [IntKind.wrap_i64]; omega
                  clear hP3 hf3 hc3 hyp htk hrow hset hfun hy hu hv hbnd hj d0 d4 hk hdd
                  go_wp2_with (go_at_call 265; (with_reducible refine hLI.mono ?_); rintro e9 w9 ⟨rfl,rfl⟩; clear hLI c3)
                  go_roundw
                  case rel=>exact ⟨m+1,by omega,by go_num,HSET.out,HF3.out.setCell (p:=⟨b,j,none⟩) (fun _=>rfl) _⟩
                  case measure=>simp [intOf]; omega
                · obtain rfl:m=dd:=by omega
                  have hdd:=HDD.out
                  obtain ⟨cur,hcur,hsz,hcp⟩:=(zAH.drew hP3).copied pos e (by omega) he2
                  obtain ⟨W,hW⟩:∃ W,W=wr:=⟨_,rfl⟩
                  rw [← hW] at hcur hcp d0 ⊢
                  have hlc:=hP3.core.buf
                  obtain ⟨ad,hsl2,had⟩:=zDL (P:=Tryz.prog) 128 3 Tryz.underlying128 g l.length cb e he2 hcb Tryz.sizeInt
                  have hsl1:=zB7 (P:=Tryz.prog) 128 3 Tryz.underlying128 g l.length cb pos (by omega) (by omega) Tryz.sizeInt
                  have hsrc:∀ k v,((l.drop e).map (Value.int .i64))[k]?=some v→W.drew.cell? (ad.add k)=some v:=fun k v hk=>by
                    rw [List.getElem?_map] at hk
                    obtain ⟨z,hz,rfl⟩:=Option.map_eq_some_iff.1 hk
                    have hkl:k<(l.drop e).length:=(List.getElem?_eq_some_iff.1 hz).1
                    rw [List.length_drop] at hkl
                    rw [had (by omega)]
                    obtain ⟨g9,hg9,hc3⟩:=zHk hP3.core.buf (by omega)
                    cases hg9
                    have h9:=hc3 (e+k) (by omega)
                    rw [List.getElem?_drop] at hz
                    have hz2:l[e+k]'(by omega)=z:=by
                      have:=(List.getElem?_eq_some_iff.1 hz).2; exact this
                    rw [hz2,← hW] at h9
                    have ha9:(⟨g,e,none⟩:Addr).add k=⟨g,e+k,none⟩:=by unfold Addr.add; split <;> simp_all
                    rw [ha9]; exact h9
                  have HCUR:=Lib.hid hcur
                  have HCP:=Lib.hid hcp
                  have HF3:=Lib.hid hf3
                  have HW:=Lib.hid hW
                  have HSRC:=Lib.hid hsrc
                  have HSZ:=Lib.hid hsz
                  have hng:Hid (∀ k,k=b→k≠g):=fun k hk hkg=>by
                    obtain ⟨_,hc1⟩:=zAW hP3.core.buf (k:=g) rfl
                    obtain ⟨_,hc2,_⟩:=(hP3.core.page _ _ _ HQ2.out).block
                    exact zAr hc2 hc1 (by decide) (by rw [← hk,hkg])
                  clear hcur hcp hP3 hf3 hW hsrc hsz hlc had d4 d5 hm2 hm hdd
                  go_wp2
                  go_still_tail 12,(by kernel_rfl)
                  show wpList _ _ _ _ _ W.drew
                  refine zB6 (w:=W.drew) rfl _ _ 128 128 rfl 3 Tryz.underlying128 Tryz.oneInt g pos (l.length - pos) (cb - pos) ad (l.length - e) (cb - e) rfl rfl cur 3 HCUR.out ((l.drop e).map (Value.int .i64)) (l.length - e) (by rw [List.length_map,List.length_drop]) (Nat.min_eq_left (by omega)).symm HSRC.out HSZ.out (fun u hu=>by obtain ⟨_,_,rfl⟩:=List.mem_map.1 hu; rfl) ?_
                  obtain ⟨V,hV⟩:∃ V,V=W.drew.setRow g (cur.toList.take pos++((l.drop e).map (Value.int .i64)++cur.toList.drop (pos+(l.length - e)))).toArray:=⟨_,rfl⟩
                  have hPV:zAH tg (fun x=>G x+cntI ((l.drop pos).take m) x) (l.take pos++(l.drop e++l.drop (pos+(l.length - e)))) q2 mp2 n2 p (.slice (some ⟨g,0,none⟩) l.length cb) pgs2 V:=by rw [hV]; exact HCP.out
                  have hfV:Fr (fun k=>k=b∨k=g) w2 V:=by
                    rw [hV]
                    exact ((by rw [HW.out]; exact HF3.out:Fr (fun k=>k=b) w2 W).drew).trans (zFP W.drew g _) (fun _ _ h=>.inl h) (fun _ _ h=>.inr h)
                  rw [← hV]
                  clear hV hsl1 hsl2 HCUR HCP HSRC HSZ d0
                  have d0:=hPV.core.fields.cells.1
                  have f0:=hPV.core.fields.free 0
                  have hll:l.length=(l.take pos++(l.drop e++l.drop (pos+(l.length - e)))).length:=by simp only [List.length_append,List.length_take,List.length_drop]; omega
                  have hsh:=(zAH.drew hPV).shorten hll (pos+(l.length - e)) (by omega) (by omega)
                  rw [zOa (by omega) he2] at hsh
                  have hsl3:=zCU (P:=Tryz.prog) 128 3 Tryz.underlying128 (some ⟨g,0,none⟩) l.length cb (pos+(l.length - e)) ((l.length:Int)+(pos:Int) - (e:Int)) (by omega) (by omega) Tryz.sizeInt
                  have j3:IntKind.i64.wrap ((l.length:Int)+(pos:Int))=(l.length:Int)+(pos:Int):=by rw [IntKind.wrap_i64]; omega
                  have j4:IntKind.i64.wrap ((l.length:Int)+(pos:Int) - (e:Int))=(l.length:Int)+(pos:Int) - (e:Int):=by rw [IntKind.wrap_i64]; omega
                  have HSH:=Lib.hid hsh
                  have HFV:=Lib.hid hfV
                  clear hPV hfV hsh hll
                  go_wp2
                  go_still_tail 17,(by kernel_rfl)
                  show wpList _ _ _ _ _ V.drew
                  go_wp2
                  have hl9:(l.take pos++l.drop e).length=pos+(l.length - e):=by rw [List.length_append,List.length_take,List.length_drop]; omega
                  have hfin:Comp tg F L0 p (some ⟨g,0,none⟩) cb S w.heap.size (l.take pos++l.drop e) w (V.drew.setCell ⟨p,0,none⟩ (.slice (some ⟨g,0,none⟩) (pos+(l.length - e)) cb)):=by
                    refine ⟨_,q2,mp2,n2,pgs2,by rw [hl9]; exact HSH.out,?_,fun z hz=>?_,by rw [hl9]; omega,?_,fun k hk=>?_⟩
                    · rw [← HB.out]
                      funext z
                      show G z+cntI ((l.drop pos).take m) z+cntI (l.take pos++l.drop e) z=G z+cntI l z
                      have hdd:=HDD.out
                      rw [hdd,Nat.add_assoc,zS5 (by omega)]
                    · rcases List.mem_append.1 hz with h9 | h9
                      · exact HI.out z (List.mem_of_mem_take h9)
                      · exact HI.out z (List.mem_of_mem_drop h9)
                    · have f2:Fr S w w2:=HFR.out.trans HF2.out (fun _ _ h=>h) (fun i hi h=>(HFT.out i h.more).elim id (fun h2=>absurd hi (Nat.not_lt.2 h2)))
                      have hin2:∀ k,k<w.heap.size→zAS q2 p (.slice (some ⟨g,0,none⟩) l.length cb) pgs2 k→S k:=fun k hk h9=>by
                        rcases HT2.out k h9 with h8 | h8
                        · exact (HFT.out k h8).elim id (fun h2=>absurd hk (Nat.not_lt.2 h2))
                        · have:=HFR.out.size; omega
                      refine ((f2.trans HFV.out (fun _ _ h=>h) (fun i hi h=>?_)).drew).setCell (p:=⟨p,0,none⟩) (fun hlt=>hin2 p hlt (.inl rfl)) _
                      rcases h with rfl | rfl
                      · exact hin2 _ hi (.inr (.inr (.inr ⟨_,_,HQ2.out⟩)))
                      · exact hin2 _ hi (.inr (.inl rfl))
                    · have hk2:zAS q2 p (.slice (some ⟨g,0,none⟩) l.length cb) pgs2 k:=hk.len _
                      rcases HT2.out k hk2 with h8 | h8
                      · exact HFT.out k h8
                      · right; have:=HFR.out.size; omega
                  have hbl9:zHl (V.drew.setCell ⟨p,0,none⟩ (.slice (some ⟨g,0,none⟩) (pos+(l.length - e)) cb)) p=pos+(l.length - e):=zEI (l:=l.take pos++l.drop e) (by rw [hl9]; exact HSH.out) |>.trans hl9
                  have HFIN:=Lib.hid hfin
                  have HBL9:=Lib.hid hbl9
                  clear hfin hbl9
                  go_roundw
                  case rel=>exact ⟨pos,_,by rw [hl9]; omega,rfl,HFIN.out⟩
                  case measure =>
                    have h1:zHl (V.setCell ⟨p,0,none⟩ (.slice (some ⟨g,0,none⟩) (pos+(l.length - e)) cb)).drew p=pos+(l.length - e):=HBL9.out
                    have h2:=HBL.out
                    simp only [intOf,Int.toNat_natCast]
                    rw [h1,h2]
                    omega
            · have HB9:=Lib.hid hB
              clear hB
              go_wp2_with (first | (go_at_call 264; (with_reducible refine hPZ.mono ?_); rintro e9 w9 ⟨rfl,rfl⟩; clear hPZ c1) | (go_at_call 263; (with_reducible refine HB9.out.mono ?_); rintro e9 w2 ⟨rfl,t,rfl⟩; clear HB9))
              go_roundw
              case rel=>exact ⟨e,l,he2,by go_num,G,q,mp,n,pgs,HP.out.drewN t,HB.out,HI.out,hlen,HFR.out.drewN t,HFT.out⟩
              case measure =>
                have h1:=zEI (HP.out.drewN t)
                have h2:=HBL.out
                simp only [intOf,Int.toNat_natCast]
                omega
        · have helI:¬ (e:Int)<(l.length:Int):=by omega
          obtain ⟨dd,hdd⟩:∃ dd,dd=e - pos:=⟨_,rfl⟩
          have j1:IntKind.i64.wrap ((e:Int) - (pos:Int))=(dd:Int):=by rw [IntKind.wrap_i64]; omega
          have j2:IntKind.i64.wrap ((dd:Int)*64)=(dd:Int)*64:=by rw [IntKind.wrap_i64]; omega
          have j0:(e:Int) - (pos:Int)=(dd:Int):=by omega
          have HDD:=Lib.hid hdd
          clear hdd
          obtain ⟨ens,hens⟩:∃ ens,decide ((2048:Int)≤(dd:Int)*64)=ens:=⟨_,rfl⟩
          rcases zJW G l q mp n p _ pgs pi ens wr HP.out hp1 hp2 with hA | hB
          · have HA:=Lib.hid hA
            clear hA
            go_wp2_with (go_at_call 263; (with_reducible refine HA.out.mono ?_); rintro e9 w2 ⟨q2,mp2,n2,pgs2,b,cp,rfl,hP2,hq2,hfr2,hft2⟩; have d0:=hP2.core.fields.cells.1; have HP2:=Lib.hid hP2; have HQ2:=Lib.hid hq2; have HF2:=Lib.hid hfr2; have HT2:=Lib.hid hft2; have hsl:=zDc (P:=Tryz.prog) 128 3 Tryz.underlying128 g l.length cb pos e (by omega) (by omega) (by omega) Tryz.sizeInt; rw [← HDD.out] at hsl; clear hP2 hq2 hfr2 hft2 HA)
            clear hsl d0
            go_loopw [82] (fun i w3=>zVY tg G l q2 mp2 n2 p (.slice (some ⟨g,0,none⟩) l.length cb) pgs2 pos e b w2 w3 i) (fun i _=>dd - (intOf i).toNat)
            case atStart =>
              refine ⟨0,Nat.zero_le _,rfl,?_,Fr.refl _ _⟩
              have e0:(fun x=>G x+cntI ((l.drop pos).take 0) x)=G:=by funext x; show G x+0=G x; omega
              rw [e0]; exact HP2.out
            case round =>
              obtain ⟨m,hm,rfl,hP3,hf3⟩:=hrel
              obtain ⟨d0,-,-,-,d4,d5⟩:=hP3.core.fields.cells
              by_cases hm2:m<dd
              · have hdd:=HDD.out
                have hk:pos+m<l.length:=by omega
                obtain ⟨g9,hg9,hc3⟩:=zHk hP3.core.buf (by omega)
                cases hg9
                have c3:=hc3 (pos+m) hk
                have hyp:=hrun.out (pos+m) hk (by omega) (by omega)
                have htk:(l.drop pos).take (m+1)=(l.drop pos).take m++[l[pos+m]]:=by
                  rw [List.take_succ_eq_append_getElem (by rw [List.length_drop]; omega),List.getElem_drop]
                obtain ⟨y,hy⟩:∃ y,y=l[pos+m]:=⟨_,rfl⟩
                rw [← hy] at c3 hyp htk
                obtain ⟨j,hj⟩:∃ j:Nat,(j:Int)=y % 32:=⟨(y % 32).toNat,by omega⟩
                have hrow:=hP3.core.page _ _ _ HQ2.out
                have hj32:(j:Int)<32:=by omega
                have hcl:=hrow.cell j (by omega)
                have hfl:=hrow.free j
                rw [show 32*pi+(j:Int)=y from by omega] at hcl
                have hbnd:G y+cntI ((l.drop pos).take m) y+1<9007199254740992:=by
                  have h1:G y+cntI l y=F y:=congrFun HB.out y
                  have h2:=HF.out y
                  have h3:=zNT ((l.drop pos).take m) y
                  rw [List.length_take,List.length_drop] at h3
                  omega
                have hadd:=fun w:World=>run_float_arith (P:=Tryz.prog) w .add 29 .f64 _ _ _ (zAz _ 1 hbnd)
                rw [zCs] at hadd
                have hset:=hP3.addTo y 1 j hj (by rw [hyp]; exact HQ2.out)
                have hfun:zAe (fun x=>G x+cntI ((l.drop pos).take m) x) y 1=fun x=>G x+cntI ((l.drop pos).take (m+1)) x:=by
                  funext x
                  rw [htk,zFb]
                  unfold zAe
                  split
                  · rw [Nat.add_assoc]
                  · rfl
                rw [hfun] at hset
                have hLI:=HLI y wr d5
                rw [← hj] at hLI
                obtain ⟨u,hu⟩:∃ u,u=nf (G y+cntI ((l.drop pos).take m) y):=⟨_,rfl⟩
                obtain ⟨v,hv⟩:∃ v,v=nf (G y+cntI ((l.drop pos).take m) y+1):=⟨_,rfl⟩
                rw [← hu] at hcl hadd
                rw [← hv] at hadd hset
                have HSET:=Lib.hid hset
                have HF3:=Lib.hid hf3
                have hmI:(m:Int)<(dd:Int):=by omega
                have i5:IntKind.i64.wrap ((m:Int)+1)=(m:Int)+1:=by rw [IntKind.wrap_i64]; omega
                clear hP3 hf3 hc3 hyp htk hrow hset hfun hy hu hv hbnd hj d0 d4 hk hdd
                go_wp2_with (go_at_call 265; (with_reducible refine hLI.mono ?_); rintro e9 w9 ⟨rfl,rfl⟩; clear hLI c3)
                go_roundw
                case rel=>exact ⟨m+1,by omega,by go_num,HSET.out,HF3.out.setCell (p:=⟨b,j,none⟩) (fun _=>rfl) _⟩
                case measure=>simp [intOf]; omega
              · obtain rfl:m=dd:=by omega
                have hdd:=HDD.out
                obtain ⟨cur,hcur,hsz,hcp⟩:=(zAH.drew hP3).copied pos e (by omega) he2
                obtain ⟨W,hW⟩:∃ W,W=wr:=⟨_,rfl⟩
                rw [← hW] at hcur hcp d0 ⊢
                have hlc:=hP3.core.buf
                obtain ⟨ad,hsl2,had⟩:=zDL (P:=Tryz.prog) 128 3 Tryz.underlying128 g l.length cb e he2 hcb Tryz.sizeInt
                have hsl1:=zB7 (P:=Tryz.prog) 128 3 Tryz.underlying128 g l.length cb pos (by omega) (by omega) Tryz.sizeInt
                have hsrc:∀ k v,((l.drop e).map (Value.int .i64))[k]?=some v→W.drew.cell? (ad.add k)=some v:=fun k v hk=>by
                  rw [List.getElem?_map] at hk
                  obtain ⟨z,hz,rfl⟩:=Option.map_eq_some_iff.1 hk
                  have hkl:k<(l.drop e).length:=(List.getElem?_eq_some_iff.1 hz).1
                  rw [List.length_drop] at hkl
                  rw [had (by omega)]
                  obtain ⟨g9,hg9,hc3⟩:=zHk hP3.core.buf (by omega)
                  cases hg9
                  have h9:=hc3 (e+k) (by omega)
                  rw [List.getElem?_drop] at hz
                  have hz2:l[e+k]'(by omega)=z:=by
                    have:=(List.getElem?_eq_some_iff.1 hz).2; exact this
                  rw [hz2,← hW] at h9
                  have ha9:(⟨g,e,none⟩:Addr).add k=⟨g,e+k,none⟩:=by unfold Addr.add; split <;> simp_all
                  rw [ha9]; exact h9
                have HCUR:=Lib.hid hcur
                have HCP:=Lib.hid hcp
                have HF3:=Lib.hid hf3
                have HW:=Lib.hid hW
                have HSRC:=Lib.hid hsrc
                have HSZ:=Lib.hid hsz
                have hng:Hid (∀ k,k=b→k≠g):=fun k hk hkg=>by
                  obtain ⟨_,hc1⟩:=zAW hP3.core.buf (k:=g) rfl
                  obtain ⟨_,hc2,_⟩:=(hP3.core.page _ _ _ HQ2.out).block
                  exact zAr hc2 hc1 (by decide) (by rw [← hk,hkg])
                clear hcur hcp hP3 hf3 hW hsrc hsz hlc had d4 d5 hm2 hm hdd
                go_wp2
                go_still_tail 12,(by kernel_rfl)
                show wpList _ _ _ _ _ W.drew
                refine zB6 (w:=W.drew) rfl _ _ 128 128 rfl 3 Tryz.underlying128 Tryz.oneInt g pos (l.length - pos) (cb - pos) ad (l.length - e) (cb - e) rfl rfl cur 3 HCUR.out ((l.drop e).map (Value.int .i64)) (l.length - e) (by rw [List.length_map,List.length_drop]) (Nat.min_eq_left (by omega)).symm HSRC.out HSZ.out (fun u hu=>by obtain ⟨_,_,rfl⟩:=List.mem_map.1 hu; rfl) ?_
                obtain ⟨V,hV⟩:∃ V,V=W.drew.setRow g (cur.toList.take pos++((l.drop e).map (Value.int .i64)++cur.toList.drop (pos+(l.length - e)))).toArray:=⟨_,rfl⟩
                have hPV:zAH tg (fun x=>G x+cntI ((l.drop pos).take m) x) (l.take pos++(l.drop e++l.drop (pos+(l.length - e)))) q2 mp2 n2 p (.slice (some ⟨g,0,none⟩) l.length cb) pgs2 V:=by rw [hV]; exact HCP.out
                have hfV:Fr (fun k=>k=b∨k=g) w2 V:=by
                  rw [hV]
                  exact ((by rw [HW.out]; exact HF3.out:Fr (fun k=>k=b) w2 W).drew).trans (zFP W.drew g _) (fun _ _ h=>.inl h) (fun _ _ h=>.inr h)
                rw [← hV]
                clear hV hsl1 hsl2 HCUR HCP HSRC HSZ d0
                have d0:=hPV.core.fields.cells.1
                have f0:=hPV.core.fields.free 0
                have hll:l.length=(l.take pos++(l.drop e++l.drop (pos+(l.length - e)))).length:=by simp only [List.length_append,List.length_take,List.length_drop]; omega
                have hsh:=(zAH.drew hPV).shorten hll (pos+(l.length - e)) (by omega) (by omega)
                rw [zOa (by omega) he2] at hsh
                have hsl3:=zCU (P:=Tryz.prog) 128 3 Tryz.underlying128 (some ⟨g,0,none⟩) l.length cb (pos+(l.length - e)) ((l.length:Int)+(pos:Int) - (e:Int)) (by omega) (by omega) Tryz.sizeInt
                have j3:IntKind.i64.wrap ((l.length:Int)+(pos:Int))=(l.length:Int)+(pos:Int):=by rw [IntKind.wrap_i64]; omega
                have j4:IntKind.i64.wrap ((l.length:Int)+(pos:Int) - (e:Int))=(l.length:Int)+(pos:Int) - (e:Int):=by rw [IntKind.wrap_i64]; omega
                have HSH:=Lib.hid hsh
                have HFV:=Lib.hid hfV
                clear hPV hfV hsh hll
                go_wp2
                go_still_tail 17,(by kernel_rfl)
                show wpList _ _ _ _ _ V.drew
                go_wp2
                have hl9:(l.take pos++l.drop e).length=pos+(l.length - e):=by rw [List.length_append,List.length_take,List.length_drop]; omega
                have hfin:Comp tg F L0 p (some ⟨g,0,none⟩) cb S w.heap.size (l.take pos++l.drop e) w (V.drew.setCell ⟨p,0,none⟩ (.slice (some ⟨g,0,none⟩) (pos+(l.length - e)) cb)):=by
                  refine ⟨_,q2,mp2,n2,pgs2,by rw [hl9]; exact HSH.out,?_,fun z hz=>?_,by rw [hl9]; omega,?_,fun k hk=>?_⟩
                  · rw [← HB.out]
                    funext z
                    show G z+cntI ((l.drop pos).take m) z+cntI (l.take pos++l.drop e) z=G z+cntI l z
                    have hdd:=HDD.out
                    rw [hdd,Nat.add_assoc,zS5 (by omega)]
                  · rcases List.mem_append.1 hz with h9 | h9
                    · exact HI.out z (List.mem_of_mem_take h9)
                    · exact HI.out z (List.mem_of_mem_drop h9)
                  · have f2:Fr S w w2:=HFR.out.trans HF2.out (fun _ _ h=>h) (fun i hi h=>(HFT.out i h.more).elim id (fun h2=>absurd hi (Nat.not_lt.2 h2)))
                    have hin2:∀ k,k<w.heap.size→zAS q2 p (.slice (some ⟨g,0,none⟩) l.length cb) pgs2 k→S k:=fun k hk h9=>by
                      rcases HT2.out k h9 with h8 | h8
                      · exact (HFT.out k h8).elim id (fun h2=>absurd hk (Nat.not_lt.2 h2))
                      · have:=HFR.out.size; omega
                    refine ((f2.trans HFV.out (fun _ _ h=>h) (fun i hi h=>?_)).drew).setCell (p:=⟨p,0,none⟩) (fun hlt=>hin2 p hlt (.inl rfl)) _
                    rcases h with rfl | rfl
                    · exact hin2 _ hi (.inr (.inr (.inr ⟨_,_,HQ2.out⟩)))
                    · exact hin2 _ hi (.inr (.inl rfl))
                  · have hk2:zAS q2 p (.slice (some ⟨g,0,none⟩) l.length cb) pgs2 k:=hk.len _
                    rcases HT2.out k hk2 with h8 | h8
                    · exact HFT.out k h8
                    · right; have:=HFR.out.size; omega
                have hbl9:zHl (V.drew.setCell ⟨p,0,none⟩ (.slice (some ⟨g,0,none⟩) (pos+(l.length - e)) cb)) p=pos+(l.length - e):=zEI (l:=l.take pos++l.drop e) (by rw [hl9]; exact HSH.out) |>.trans hl9
                have HFIN:=Lib.hid hfin
                have HBL9:=Lib.hid hbl9
                clear hfin hbl9
                go_roundw
                case rel=>exact ⟨pos,_,by rw [hl9]; omega,rfl,HFIN.out⟩
                case measure =>
                  have h1:zHl (V.setCell ⟨p,0,none⟩ (.slice (some ⟨g,0,none⟩) (pos+(l.length - e)) cb)).drew p=pos+(l.length - e):=HBL9.out
                  have h2:=HBL.out
                  simp only [intOf,Int.toNat_natCast]
                  rw [h1,h2]
                  omega
          · have HB9:=Lib.hid hB
            clear hB
            go_wp2_with (go_at_call 263; (with_reducible refine HB9.out.mono ?_); rintro e9 w2 ⟨rfl,t,rfl⟩; clear HB9)
            go_roundw
            case rel=>exact ⟨e,l,he2,by go_num,G,q,mp,n,pgs,HP.out.drewN t,HB.out,HI.out,hlen,HFR.out.drewN t,HFT.out⟩
            case measure =>
              have h1:=zEI (HP.out.drewN t)
              have h2:=HBL.out
              simp only [intOf,Int.toNat_natCast]
              omega
    · obtain rfl:pos=l.length:=by omega
      have i1:IntKind.i64.wrap ((l.length:Int)+32)=(l.length:Int)+32:=by rw [IntKind.wrap_i64]; omega
      have f1:=hP.core.fields.free 1
      clear hP hb hI hfr hft hlt
      go_wp2
      go_end0
      exact ⟨rfl,_,l,G,q,mp,n,pgs,HP.out.setTg _,HB.out,HI.out,hlen,HFR.out.setCell (p:=⟨p,1,none⟩) (fun hlt=>(HFT.out p (.inl rfl)).elim id (fun h=>absurd hlt (Nat.not_lt.2 h))) _,HFT.out⟩
end Go.Proofs.YtllaekopaglolaaGreat
end
