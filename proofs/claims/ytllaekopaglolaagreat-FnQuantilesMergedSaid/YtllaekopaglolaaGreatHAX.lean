/-
  The store with pages: Add into the buffer. (Printed by gen_page7.py.)
-/
import Derived.Test.YtllaekopaglolaaGreatHAW
import Derived.Test.YtllaekopaglolaaGreatHAV
import Derived.Test.YtllaekopaglolaaGreatHAU
import Derived.Test.YtllaekopaglolaaGreatHAR
section
namespace Go.Proofs.YtllaekopaglolaaGreat
open Go.RowKit
variable {tg:Int}
theorem zAH.bufAfter {G:Int→Nat} {bs:List Int} {q:Int→Option (Nat × Nat)} {mp:Int} {n p:Nat} {bufv pgs:Value} {w:World} (h:zAH tg G bs q mp n p bufv pgs w) {o:Obj} {w2:World} (hgr:(w.alloc o).grownBy w2 bufv.ownBlock) :
    PS w2 p bufv tg pgs mp∧Fr (fun k=>bufv.ownBlock=some k) w w2:=by
  have hbp:bufv.ownBlock≠some p:=fun e=>by obtain ⟨_,hc⟩:=zAW h.core.buf e; exact zAr hc h.core.fields (by decide) rfl
  have hsz:(w.alloc o).heap.size=w.heap.size+1:=by simp
  have hold:∀ k,k<w.heap.size→bufv.ownBlock≠some k→w2.heap[k]?=w.heap[k]?:=fun k hk hne=>(hgr.block k (by omega) (fun e=>hne e.symm)).trans (Below.heap_alloc w o k hk)
  exact ⟨(hold p h.core.fields.lt hbp).trans h.core.fields,hgr.os,hgr.tape,hgr.output,by have:=hgr.size; omega,fun k hk hn=>hold k hk hn⟩
set_option maxRecDepth 100000 in
set_option maxHeartbeats 800000 in
theorem zTS (G:Int→Nat) (bs:List Int) (q:Int→Option (Nat × Nat)) (mp:Int) (n p:Nat) (bufv pgs:Value) (i:Int) (w:World) (h:zAH tg G bs q mp n p bufv pgs w) (hq:q (i / 32)=none) (hlen:((bs.length:Nat):Int)<tg) (hlen2:bs.length<1000000000) (hi1:-10000≤i) (hi2:i≤10000) :
    Calls Tryz.prog 247 #[.pointer (some ⟨p,0,none⟩),.int .i64 i] w fun e w'=>zKK tg G bs q p bufv pgs i 1 w e w':=by
  obtain ⟨ao,n1,cb,rfl⟩:=zAR h.core.buf
  obtain rfl:=zAo h.core.buf
  obtain ⟨pi,hpi⟩:∃ pi,pi=i / 32:=⟨_,rfl⟩
  obtain ⟨d0,d1,d2,d3,d4,d5⟩:=h.core.fields.cells
  obtain ⟨aq,nq2,cq,hpgs⟩:=zAR h.core.row
  have hnq:nq2=n:=by have h2:=h.core.row; rw [hpgs] at h2; exact zAo h2
  subst hnq
  rw [hpgs] at d2
  have hbd:(nq2=0∧mp=9223372036854775807)∨(0<nq2 ∧ -330≤mp∧mp+(nq2:Int)≤330):=by rcases h.bd with ⟨h1,h2,_⟩ | h2; exact .inl ⟨h1,h2⟩; exact .inr h2
  have HPI:=fun w h4=>zCB p i w h4
  rw [← hpi] at HPI
  have hp1:-320≤pi:=by omega
  have hp2:pi≤320:=by omega
  have hlen':¬ tg≤((bs.length:Nat):Int):=by omega
  have hl64:decide (tg≤((bs.length:Nat):Int))=false:=by simpa using hlen'
  have hl63:((bs.length:Nat):Int)<tg:=by omega
  have HP:=Lib.hid hpgs
  have HH:=Lib.hid h
  have HQ:Hid (q pi=none):=by rw [hpi]; exact hq
  clear h hpgs hq hpi
  by_cases c1:mp≤pi
  · have q1:decide (mp≤pi)=true:=by simpa using c1
    have hbd2:0<nq2 ∧ -330≤mp∧mp+(nq2:Int)≤330:=by omega
    have i1:IntKind.i64.wrap (mp+(nq2:Int))=mp+(nq2:Int):=by rw [IntKind.wrap_i64]; omega
    by_cases c2:pi<mp+(nq2:Int)
    · have q2:decide (pi<mp+(nq2:Int))=true:=by simpa using c2
      obtain ⟨g,c0,hg2,hgc,hcell⟩:=HH.out.rowAt hbd2.1
      rw [HP.out] at hg2
      cases hg2
      obtain ⟨j,hj⟩:∃ j:Nat,pi - mp=(j:Int):=⟨(pi - mp).toNat,by omega⟩
      have i2:IntKind.i64.wrap (pi - mp)=(j:Int):=by rw [IntKind.wrap_i64]; omega
      have hjn':(j:Int)<(nq2:Int):=by omega
      have hc:=hcell j (by omega)
      rw [show mp+(j:Int)=pi from by omega,HQ.out] at hc
      replace hc:w.cell? ⟨g,j,none⟩=some (.slice none 0 0):=hc
      clear hcell hj
      go_enter Tryz.func247,Tryz.ntmps247
      go_wp2_with (go_at_call 264; (with_reducible refine (HPI _ d4).mono ?_); rintro e w' ⟨rfl,rfl⟩)
      go_quiet (fail)
      obtain ⟨wa,hwa⟩:∃ wa,wa=w.drewN nq:=⟨_,rfl⟩
      have HHa:Hid (zAH tg G bs q mp nq2 p (.slice ao bs.length cb) pgs wa):=by show zAH tg _ _ _ _ _ _ _ _ _; rw [hwa]; exact HH.out.drewN nq
      have HFa:Hid (Fr (zAS q p (.slice ao bs.length cb) pgs) w wa):=by show Fr _ _ _; rw [hwa]; exact (Fr.refl _ w).drewN nq
      have hc':wa.cell? ⟨g,j,none⟩=some (.slice none 0 0):=by rw [hwa]; exact hc
      rw [← hwa]
      clear hwa HH d0 d1 d2 d3 d4 d5 hc
      obtain ⟨d0,d1,d2,d3,d4,d5⟩:=HHa.out.core.fields.cells
      rw [HP.out] at d2
      go_wp2
      go_quiet (fail)
      obtain ⟨wc,hwc⟩:∃ wc,wc=wa.drewN nq:=⟨_,rfl⟩
      have HHc:Hid (zAH tg G bs q mp nq2 p (.slice ao bs.length cb) pgs wc):=by show zAH tg _ _ _ _ _ _ _ _ _; rw [hwc]; exact HHa.out.drewN nq
      have HFc:Hid (Fr (zAS q p (.slice ao bs.length cb) pgs) w wc):=by show Fr _ _ _; rw [hwc]; exact HFa.out.drewN nq
      rw [← hwc]
      clear hwc HHa HFa d0 d1 d2 d3 d4 d5 hc'
      obtain ⟨wa,rfl⟩:∃ wa,wa=wc:=⟨_,rfl⟩
      have HHa:=HHc
      have HFa:=HFc
      clear HHc HFc
      obtain ⟨d0,d1,d2,d3,d4,d5⟩:=HHa.out.core.fields.cells
      rw [HP.out] at d2
      go_wp2
      by_cases hcap:bs.length=cb
      · subst hcap
        go_quiet (fail)
        obtain ⟨wb,hwb⟩:∃ wb,wb=wa.drewN nq:=⟨_,rfl⟩
        have HHb:Hid (zAH tg G bs q mp nq2 p (.slice ao bs.length bs.length) pgs wb):=by show zAH tg _ _ _ _ _ _ _ _ _; rw [hwb]; exact HHa.out.drewN nq
        have HFb:Hid (Fr (zAS q p (.slice ao bs.length bs.length) pgs) w wb):=by show Fr _ _ _; rw [hwb]; exact HFa.out.drewN nq
        rw [← hwb]
        clear hwb HHa HFa d0 d1 d2 d3 d4 d5
        obtain ⟨d0,d1,d2,d3,d4,d5⟩:=HHb.out.core.fields.cells
        have ho1:=HHb.out.core.buf
        go_wp2_with (at_builtin; refine zAV wb (Value.int .i64 i) rfl _ _ 128 3 rfl (.int .i64 0) 8 Tryz.underlying128 Tryz.infoInt rfl rfl (.slice ao bs.length bs.length) bs.length (bs.map (Value.int .i64)) rfl ho1 rfl (by omega) (by decide) ?_; intro ao1 cp1 w2 hown2 hgrow hblk; have hPS:=HHb.out.bufAfter hgrow; have e0:=hPS.1.cells.1; have e0f:=hPS.1.free 0; have HO2:=Lib.hid hown2; have HGR:=Lib.hid hgrow; have HBK:=Lib.hid hblk; have HPF:=Lib.hid hPS.2; clear hown2 hgrow hblk hPS ho1 d0 d1 d2 d3 d4 d5)
        go_end0
        refine ⟨G,bs++[i],q,mp,nq2,_,pgs,rfl,HHb.out.bufTo HO2.out HGR.out,zBV G bs i,.inr rfl,fun x=>.inl rfl,?_,fun k hk=>?_⟩
        · exact (HFb.out.trans HPF.out (fun _ _ h=>h) (fun j _ h=>.inr (.inl h))).setCell (p:=⟨p,0,none⟩) (fun _=>.inl rfl) _
        · rcases hk with h | h | h
          · exact .inl (.inl h)
          · rcases HBK.out with h2 | h2
            · exact .inl (.inr (.inl (h2.symm.trans h)))
            · right
              rw [h2] at h
              have:=Option.some.inj h
              have:=HFb.out.size
              omega
          · exact .inl (.inr (.inr h))
      · have hcp1:decide (((bs.length:Nat):Int)=((cb:Nat):Int))=false:=by simp; omega
        have hcp2:(((bs.length:Nat):Int) == ((cb:Nat):Int))=false:=by simp; omega
        have hcp3:¬ ((bs.length:Nat):Int)=((cb:Nat):Int):=by omega
        have hcp4:decide (bs.length=cb)=false:=by simpa using hcap
        have hcp5:(bs.length == cb)=false:=by simpa using hcap
        go_quiet (fail)
        obtain ⟨wb,hwb⟩:∃ wb,wb=wa.drewN nq:=⟨_,rfl⟩
        have HHb:Hid (zAH tg G bs q mp nq2 p (.slice ao bs.length cb) pgs wb):=by show zAH tg _ _ _ _ _ _ _ _ _; rw [hwb]; exact HHa.out.drewN nq
        have HFb:Hid (Fr (zAS q p (.slice ao bs.length cb) pgs) w wb):=by show Fr _ _ _; rw [hwb]; exact HFa.out.drewN nq
        rw [← hwb]
        clear hwb HHa HFa d0 d1 d2 d3 d4 d5
        obtain ⟨d0,d1,d2,d3,d4,d5⟩:=HHb.out.core.fields.cells
        have ho1:=HHb.out.core.buf
        go_wp2_with (at_builtin; refine zAV wb (Value.int .i64 i) rfl _ _ 128 3 rfl (.int .i64 0) 8 Tryz.underlying128 Tryz.infoInt rfl rfl (.slice ao bs.length cb) bs.length (bs.map (Value.int .i64)) rfl ho1 rfl (by omega) (by decide) ?_; intro ao1 cp1 w2 hown2 hgrow hblk; have hPS:=HHb.out.bufAfter hgrow; have e0:=hPS.1.cells.1; have e0f:=hPS.1.free 0; have HO2:=Lib.hid hown2; have HGR:=Lib.hid hgrow; have HBK:=Lib.hid hblk; have HPF:=Lib.hid hPS.2; clear hown2 hgrow hblk hPS ho1 d0 d1 d2 d3 d4 d5)
        go_end0
        refine ⟨G,bs++[i],q,mp,nq2,_,pgs,rfl,HHb.out.bufTo HO2.out HGR.out,zBV G bs i,.inr rfl,fun x=>.inl rfl,?_,fun k hk=>?_⟩
        · exact (HFb.out.trans HPF.out (fun _ _ h=>h) (fun j _ h=>.inr (.inl h))).setCell (p:=⟨p,0,none⟩) (fun _=>.inl rfl) _
        · rcases hk with h | h | h
          · exact .inl (.inl h)
          · rcases HBK.out with h2 | h2
            · exact .inl (.inr (.inl (h2.symm.trans h)))
            · right
              rw [h2] at h
              have:=Option.some.inj h
              have:=HFb.out.size
              omega
          · exact .inl (.inr (.inr h))
    · have q2:decide (pi<mp+(nq2:Int))=false:=by simpa using c2
      go_enter Tryz.func247,Tryz.ntmps247
      go_wp2_with (go_at_call 264; (with_reducible refine (HPI _ d4).mono ?_); rintro e w' ⟨rfl,rfl⟩)
      go_quiet (fail)
      obtain ⟨wa,hwa⟩:∃ wa,wa=w.drewN nq:=⟨_,rfl⟩
      have HHa:Hid (zAH tg G bs q mp nq2 p (.slice ao bs.length cb) pgs wa):=by show zAH tg _ _ _ _ _ _ _ _ _; rw [hwa]; exact HH.out.drewN nq
      have HFa:Hid (Fr (zAS q p (.slice ao bs.length cb) pgs) w wa):=by show Fr _ _ _; rw [hwa]; exact (Fr.refl _ w).drewN nq
      rw [← hwa]
      clear hwa HH d0 d1 d2 d3 d4 d5
      obtain ⟨d0,d1,d2,d3,d4,d5⟩:=HHa.out.core.fields.cells
      rw [HP.out] at d2
      go_wp2
      by_cases hcap:bs.length=cb
      · subst hcap
        go_quiet (fail)
        obtain ⟨wb,hwb⟩:∃ wb,wb=wa.drewN nq:=⟨_,rfl⟩
        have HHb:Hid (zAH tg G bs q mp nq2 p (.slice ao bs.length bs.length) pgs wb):=by show zAH tg _ _ _ _ _ _ _ _ _; rw [hwb]; exact HHa.out.drewN nq
        have HFb:Hid (Fr (zAS q p (.slice ao bs.length bs.length) pgs) w wb):=by show Fr _ _ _; rw [hwb]; exact HFa.out.drewN nq
        rw [← hwb]
        clear hwb HHa HFa d0 d1 d2 d3 d4 d5
        obtain ⟨d0,d1,d2,d3,d4,d5⟩:=HHb.out.core.fields.cells
        have ho1:=HHb.out.core.buf
        go_wp2_with (at_builtin; refine zAV wb (Value.int .i64 i) rfl _ _ 128 3 rfl (.int .i64 0) 8 Tryz.underlying128 Tryz.infoInt rfl rfl (.slice ao bs.length bs.length) bs.length (bs.map (Value.int .i64)) rfl ho1 rfl (by omega) (by decide) ?_; intro ao1 cp1 w2 hown2 hgrow hblk; have hPS:=HHb.out.bufAfter hgrow; have e0:=hPS.1.cells.1; have e0f:=hPS.1.free 0; have HO2:=Lib.hid hown2; have HGR:=Lib.hid hgrow; have HBK:=Lib.hid hblk; have HPF:=Lib.hid hPS.2; clear hown2 hgrow hblk hPS ho1 d0 d1 d2 d3 d4 d5)
        go_end0
        refine ⟨G,bs++[i],q,mp,nq2,_,pgs,rfl,HHb.out.bufTo HO2.out HGR.out,zBV G bs i,.inr rfl,fun x=>.inl rfl,?_,fun k hk=>?_⟩
        · exact (HFb.out.trans HPF.out (fun _ _ h=>h) (fun j _ h=>.inr (.inl h))).setCell (p:=⟨p,0,none⟩) (fun _=>.inl rfl) _
        · rcases hk with h | h | h
          · exact .inl (.inl h)
          · rcases HBK.out with h2 | h2
            · exact .inl (.inr (.inl (h2.symm.trans h)))
            · right
              rw [h2] at h
              have:=Option.some.inj h
              have:=HFb.out.size
              omega
          · exact .inl (.inr (.inr h))
      · have hcp1:decide (((bs.length:Nat):Int)=((cb:Nat):Int))=false:=by simp; omega
        have hcp2:(((bs.length:Nat):Int) == ((cb:Nat):Int))=false:=by simp; omega
        have hcp3:¬ ((bs.length:Nat):Int)=((cb:Nat):Int):=by omega
        have hcp4:decide (bs.length=cb)=false:=by simpa using hcap
        have hcp5:(bs.length == cb)=false:=by simpa using hcap
        go_quiet (fail)
        obtain ⟨wb,hwb⟩:∃ wb,wb=wa.drewN nq:=⟨_,rfl⟩
        have HHb:Hid (zAH tg G bs q mp nq2 p (.slice ao bs.length cb) pgs wb):=by show zAH tg _ _ _ _ _ _ _ _ _; rw [hwb]; exact HHa.out.drewN nq
        have HFb:Hid (Fr (zAS q p (.slice ao bs.length cb) pgs) w wb):=by show Fr _ _ _; rw [hwb]; exact HFa.out.drewN nq
        rw [← hwb]
        clear hwb HHa HFa d0 d1 d2 d3 d4 d5
        obtain ⟨d0,d1,d2,d3,d4,d5⟩:=HHb.out.core.fields.cells
        have ho1:=HHb.out.core.buf
        go_wp2_with (at_builtin; refine zAV wb (Value.int .i64 i) rfl _ _ 128 3 rfl (.int .i64 0) 8 Tryz.underlying128 Tryz.infoInt rfl rfl (.slice ao bs.length cb) bs.length (bs.map (Value.int .i64)) rfl ho1 rfl (by omega) (by decide) ?_; intro ao1 cp1 w2 hown2 hgrow hblk; have hPS:=HHb.out.bufAfter hgrow; have e0:=hPS.1.cells.1; have e0f:=hPS.1.free 0; have HO2:=Lib.hid hown2; have HGR:=Lib.hid hgrow; have HBK:=Lib.hid hblk; have HPF:=Lib.hid hPS.2; clear hown2 hgrow hblk hPS ho1 d0 d1 d2 d3 d4 d5)
        go_end0
        refine ⟨G,bs++[i],q,mp,nq2,_,pgs,rfl,HHb.out.bufTo HO2.out HGR.out,zBV G bs i,.inr rfl,fun x=>.inl rfl,?_,fun k hk=>?_⟩
        · exact (HFb.out.trans HPF.out (fun _ _ h=>h) (fun j _ h=>.inr (.inl h))).setCell (p:=⟨p,0,none⟩) (fun _=>.inl rfl) _
        · rcases hk with h | h | h
          · exact .inl (.inl h)
          · rcases HBK.out with h2 | h2
            · exact .inl (.inr (.inl (h2.symm.trans h)))
            · right
              rw [h2] at h
              have:=Option.some.inj h
              have:=HFb.out.size
              omega
          · exact .inl (.inr (.inr h))
  · have q1:decide (mp≤pi)=false:=by simpa using c1
    go_enter Tryz.func247,Tryz.ntmps247
    go_wp2_with (go_at_call 264; (with_reducible refine (HPI _ d4).mono ?_); rintro e w' ⟨rfl,rfl⟩)
    go_quiet (fail)
    obtain ⟨wa,hwa⟩:∃ wa,wa=w.drewN nq:=⟨_,rfl⟩
    have HHa:Hid (zAH tg G bs q mp nq2 p (.slice ao bs.length cb) pgs wa):=by show zAH tg _ _ _ _ _ _ _ _ _; rw [hwa]; exact HH.out.drewN nq
    have HFa:Hid (Fr (zAS q p (.slice ao bs.length cb) pgs) w wa):=by show Fr _ _ _; rw [hwa]; exact (Fr.refl _ w).drewN nq
    rw [← hwa]
    clear hwa HH d0 d1 d2 d3 d4 d5
    obtain ⟨d0,d1,d2,d3,d4,d5⟩:=HHa.out.core.fields.cells
    rw [HP.out] at d2
    go_wp2
    by_cases hcap:bs.length=cb
    · subst hcap
      go_quiet (fail)
      obtain ⟨wb,hwb⟩:∃ wb,wb=wa.drewN nq:=⟨_,rfl⟩
      have HHb:Hid (zAH tg G bs q mp nq2 p (.slice ao bs.length bs.length) pgs wb):=by show zAH tg _ _ _ _ _ _ _ _ _; rw [hwb]; exact HHa.out.drewN nq
      have HFb:Hid (Fr (zAS q p (.slice ao bs.length bs.length) pgs) w wb):=by show Fr _ _ _; rw [hwb]; exact HFa.out.drewN nq
      rw [← hwb]
      clear hwb HHa HFa d0 d1 d2 d3 d4 d5
      obtain ⟨d0,d1,d2,d3,d4,d5⟩:=HHb.out.core.fields.cells
      have ho1:=HHb.out.core.buf
      go_wp2_with (at_builtin; refine zAV wb (Value.int .i64 i) rfl _ _ 128 3 rfl (.int .i64 0) 8 Tryz.underlying128 Tryz.infoInt rfl rfl (.slice ao bs.length bs.length) bs.length (bs.map (Value.int .i64)) rfl ho1 rfl (by omega) (by decide) ?_; intro ao1 cp1 w2 hown2 hgrow hblk; have hPS:=HHb.out.bufAfter hgrow; have e0:=hPS.1.cells.1; have e0f:=hPS.1.free 0; have HO2:=Lib.hid hown2; have HGR:=Lib.hid hgrow; have HBK:=Lib.hid hblk; have HPF:=Lib.hid hPS.2; clear hown2 hgrow hblk hPS ho1 d0 d1 d2 d3 d4 d5)
      go_end0
      refine ⟨G,bs++[i],q,mp,nq2,_,pgs,rfl,HHb.out.bufTo HO2.out HGR.out,zBV G bs i,.inr rfl,fun x=>.inl rfl,?_,fun k hk=>?_⟩
      · exact (HFb.out.trans HPF.out (fun _ _ h=>h) (fun j _ h=>.inr (.inl h))).setCell (p:=⟨p,0,none⟩) (fun _=>.inl rfl) _
      · rcases hk with h | h | h
        · exact .inl (.inl h)
        · rcases HBK.out with h2 | h2
          · exact .inl (.inr (.inl (h2.symm.trans h)))
          · right
            rw [h2] at h
            have:=Option.some.inj h
            have:=HFb.out.size
            omega
        · exact .inl (.inr (.inr h))
    · have hcp1:decide (((bs.length:Nat):Int)=((cb:Nat):Int))=false:=by simp; omega
      have hcp2:(((bs.length:Nat):Int) == ((cb:Nat):Int))=false:=by simp; omega
      have hcp3:¬ ((bs.length:Nat):Int)=((cb:Nat):Int):=by omega
      have hcp4:decide (bs.length=cb)=false:=by simpa using hcap
      have hcp5:(bs.length == cb)=false:=by simpa using hcap
      go_quiet (fail)
      obtain ⟨wb,hwb⟩:∃ wb,wb=wa.drewN nq:=⟨_,rfl⟩
      have HHb:Hid (zAH tg G bs q mp nq2 p (.slice ao bs.length cb) pgs wb):=by show zAH tg _ _ _ _ _ _ _ _ _; rw [hwb]; exact HHa.out.drewN nq
      have HFb:Hid (Fr (zAS q p (.slice ao bs.length cb) pgs) w wb):=by show Fr _ _ _; rw [hwb]; exact HFa.out.drewN nq
      rw [← hwb]
      clear hwb HHa HFa d0 d1 d2 d3 d4 d5
      obtain ⟨d0,d1,d2,d3,d4,d5⟩:=HHb.out.core.fields.cells
      have ho1:=HHb.out.core.buf
      go_wp2_with (at_builtin; refine zAV wb (Value.int .i64 i) rfl _ _ 128 3 rfl (.int .i64 0) 8 Tryz.underlying128 Tryz.infoInt rfl rfl (.slice ao bs.length cb) bs.length (bs.map (Value.int .i64)) rfl ho1 rfl (by omega) (by decide) ?_; intro ao1 cp1 w2 hown2 hgrow hblk; have hPS:=HHb.out.bufAfter hgrow; have e0:=hPS.1.cells.1; have e0f:=hPS.1.free 0; have HO2:=Lib.hid hown2; have HGR:=Lib.hid hgrow; have HBK:=Lib.hid hblk; have HPF:=Lib.hid hPS.2; clear hown2 hgrow hblk hPS ho1 d0 d1 d2 d3 d4 d5)
      go_end0
      refine ⟨G,bs++[i],q,mp,nq2,_,pgs,rfl,HHb.out.bufTo HO2.out HGR.out,zBV G bs i,.inr rfl,fun x=>.inl rfl,?_,fun k hk=>?_⟩
      · exact (HFb.out.trans HPF.out (fun _ _ h=>h) (fun j _ h=>.inr (.inl h))).setCell (p:=⟨p,0,none⟩) (fun _=>.inl rfl) _
      · rcases hk with h | h | h
        · exact .inl (.inl h)
        · rcases HBK.out with h2 | h2
          · exact .inl (.inr (.inl (h2.symm.trans h)))
          · right
            rw [h2] at h
            have:=Option.some.inj h
            have:=HFb.out.size
            omega
        · exact .inl (.inr (.inr h))
end Go.Proofs.YtllaekopaglolaaGreat
end
/-
  The store with pages: AddWithCount.
-/
section
namespace Go.Proofs.YtllaekopaglolaaGreat
open Go.RowKit
variable {tg:Int}
theorem zIi (G:Int→Nat) (bs:List Int) (q:Int→Option (Nat × Nat)) (mp:Int) (n p:Nat) (bufv pgs:Value) (pi:Int) (w:World) (h:zAH tg G bs q mp n p bufv pgs w) (hp1:-320≤pi) (hp2:pi≤320) :
    Calls Tryz.prog 263 #[.pointer (some ⟨p,0,none⟩),.int .i64 pi,.bool true] w fun e w'=>zC3 tg G bs q p bufv pgs pi w e w':=by
  cases hq:q pi with
  | some z=>obtain ⟨b,cp⟩:=z; exact zPB G bs q mp n p bufv pgs pi b cp w h hq
  | none =>
    rcases h.bd with ⟨rfl,rfl,rfl⟩ | ⟨hn,h1,h2⟩
    · exact zR2 G bs q p bufv pi w h hp1 hp2
    · by_cases c1:pi<mp
      · exact zR1 G bs q mp n p bufv pgs pi w h hn c1 hp1 hp2
      · by_cases c2:pi<mp+(n:Int)
        · exact zPA G bs q mp n p bufv pgs pi w h hq (by omega) c2 hp1 hp2
        · exact zR0 G bs q mp n p bufv pgs pi w h hn (by omega) hp1 hp2
def zXa (tg:Int) (G:Int→Nat) (bs:List Int) (q:Int→Option (Nat × Nat)) (p:Nat) (bufv pgs:Value) (i:Int) (c:Nat) (w:World) (e:Ending) (w':World):Prop :=
  ∃ q' mp' n' pgs',e = .returned (.tuple #[])∧zAH tg (zAe G i c) bs q' mp' n' p bufv pgs' w'∧Fr (zAS q p (.slice none 0 0) pgs) w w'∧(∀ k,zAS q' p bufv pgs' k→zAS q p bufv pgs k∨w.heap.size≤k)
set_option maxRecDepth 100000 in
set_option maxHeartbeats 400000 in
theorem zQ8 (G:Int→Nat) (bs:List Int) (q:Int→Option (Nat × Nat)) (mp:Int) (n p:Nat) (bufv pgs:Value) (i:Int) (c:Nat) (w:World) (h:zAH tg G bs q mp n p bufv pgs w) (hc:2≤c) (hs:G i+c<9007199254740992) (hi1:-10000≤i) (hi2:i≤10000) :
    Calls Tryz.prog 249 #[.pointer (some ⟨p,0,none⟩),.int .i64 i,.float .f64 (nf c)] w fun e w'=>zXa tg G bs q p bufv pgs i c w e w':=by
  obtain ⟨pi,hpi⟩:∃ pi,pi=i / 32:=⟨_,rfl⟩
  obtain ⟨l,hl⟩:∃ l:Nat,(l:Int)=i % 32:=⟨(i % 32).toNat,by omega⟩
  have hl32:(l:Int)<32:=by omega
  obtain ⟨-,-,-,-,d4,d5⟩:=h.core.fields.cells
  have HPI:=fun w h4=>zCB p i w h4
  have HLI:=fun w h5=>zDk p i w h5
  rw [← hl] at HLI
  rw [← hpi] at HPI
  have HPG:=zIi G bs q mp n p bufv pgs pi w h (by omega) (by omega)
  have hz:=zES c (by omega) (by omega)
  have h1:(FloatKind.f64.format.order (nf c) 4607182418800017408 == some .eq)=false:=by
    rw [← zCs,zBn c 1 (by omega) (by decide),Nat.compare_eq_gt.2 (by omega)]; rfl
  have hadd:=fun w:World=>run_float_arith (P:=Tryz.prog) w .add 29 .f64 _ _ _ (zAz (G i) c hs)
  obtain ⟨y,hy⟩:∃ y,y=nf c:=⟨_,rfl⟩
  rw [← hy] at hz h1 hadd ⊢
  have HL:=Lib.hid hl
  have HI:=Lib.hid hpi
  clear h hpi hl hs hy
  go_enter Tryz.func249,Tryz.ntmps249
  go_wp2_with (first | (go_at_call 264; (with_reducible refine (HPI _ d4).mono ?_); rintro e w' ⟨rfl,rfl⟩) | (go_at_call 263; (with_reducible refine HPG.mono ?_); rintro e w1 ⟨q',mp',n',pgs',b,cp,rfl,hP,hq',hfr,hft⟩; have e5:=hP.core.fields.cells.2.2.2.2.2; have hrow:=hP.core.page _ _ _ hq'; have hcl:=hrow.cell l (by omega); have hfl:=hrow.free l; rw [show 32*pi+(l:Int)=i from (by have h2:=HL.out; have h3:=HI.out; omega)] at hcl; have HP:=Lib.hid hP; have HQ:=Lib.hid hq'; have HF:=Lib.hid hfr; have HT:=Lib.hid hft; clear hP hq' hfr hft hrow d4 d5 HPG) | (go_at_call 265; (with_reducible refine (HLI _ e5).mono ?_); rintro e w' ⟨rfl,rfl⟩))
  go_end0
  have hfin:=HP.out.addTo i c l HL.out (by rw [← HI.out]; exact HQ.out)
  refine ⟨q',mp',n',_,rfl,hfin,?_,HT.out⟩
  obtain ⟨_,hcb,_⟩:=(HP.out.core.page _ _ _ HQ.out).block
  refine HF.out.setCell (p:=⟨b,l,none⟩) (fun hlt=>?_) _
  rcases HT.out b (.inr (.inr (.inr ⟨_,_,HQ.out⟩))) with h | h
  · rcases h with h | h | h | h
    · exact .inl h
    · obtain ⟨_,hc⟩:=zAW HP.out.core.buf h; exact absurd rfl (zAr hc hcb (by decide))
    · exact .inr (.inr (.inl h))
    · exact .inr (.inr (.inr h))
  · exact absurd hlt (Nat.not_lt.2 h)
theorem zTQ (G:Int→Nat) (bs:List Int) (q:Int→Option (Nat × Nat)) (mp:Int) (n p:Nat) (bufv pgs:Value) (i:Int) (c:Nat) (w:World) (h:zAH tg G bs q mp n p bufv pgs w) (hc:2≤c) (hs:G i+c<9007199254740992) (hi1:-10000≤i) (hi2:i≤10000) :
    Calls Tryz.prog 249 #[.pointer (some ⟨p,0,none⟩),.int .i64 i,.float .f64 (nf c)] w fun e w'=>zKK tg G bs q p bufv pgs i c w e w':=by
  refine (zQ8 G bs q mp n p bufv pgs i c w h hc hs hi1 hi2).mono ?_
  rintro e w' ⟨q',mp',n',pgs',rfl,h1,h2,h3⟩
  refine ⟨zAe G i c,bs,q',mp',n',bufv,pgs',rfl,h1,zIT G bs i c,.inl rfl,fun x=>?_,h2.mono (fun _ _ h=>h.more),h3⟩
  unfold zAe
  by_cases c:x=i
  · exact .inr c
  · rw [if_neg c]; exact .inl rfl
end Go.Proofs.YtllaekopaglolaaGreat
end
/-
  The store with pages: TotalCount,IsEmpty,sortBuffer.
-/
section
namespace Go.Proofs.YtllaekopaglolaaGreat
open Go.RowKit
variable {tg:Int}
section
variable {G:Int→Nat} {bs:List Int} {q:Int→Option (Nat × Nat)} {mp:Int} {n p:Nat} {bufv pgs:Value} {w:World}
theorem zAH.zeroAt (h:zAH tg G bs q mp n p bufv pgs w) {i:Int} (hi:q (i / 32)=none):G i=0:=by
  have:=h.core.zero (i / 32) hi (i % 32) (by omega) (by omega)
  rwa [show 32*(i / 32)+i % 32=i from by omega] at this
theorem zAH.outside (h:zAH tg G bs q mp n p bufv pgs w) {x:Int} (hx:x<mp∨mp+n≤x):q x=none:=by
  cases hq:q x with
  | none=>rfl
  | some z=>obtain ⟨b,cp⟩:=z; have:=h.inside x b cp hq; omega
theorem zAH.low (h:zAH tg G bs q mp n p bufv pgs w) {i:Int} (hi:i<32*mp):G i=0:=h.zeroAt (h.outside (by omega))
theorem zAH.high (h:zAH tg G bs q mp n p bufv pgs w) {i:Int} (hi:32*(mp+n)≤i):G i=0:=h.zeroAt (h.outside (by omega))
theorem zAH.hole (h:zAH tg G bs q mp n p bufv pgs w) {x:Int} (hx:q x=none) {i:Int} (h1:32*x≤i) (h2:i<32*(x+1)):G i=0:=h.zeroAt (by rw [show i / 32=x from by omega]; exact hx)
end
def zXp (G:Int→Nat) (L:Nat) (mp:Int) (n:Nat) (w wr:World) (v i:Value):Prop :=
  ∃ j:Nat,j≤n∧i = .int .i64 (j:Int)∧v = .float .f64 (nf (L+cum G (32*(mp+j))))∧wr=w
def zXo (G:Int→Nat) (L:Nat) (x:Int) (w wr:World) (v i:Value):Prop :=
  ∃ k:Nat,k≤32∧i = .int .i64 (k:Int)∧v = .float .f64 (nf (L+cum G (32*x+k)))∧wr=w
set_option maxRecDepth 100000 in
set_option maxHeartbeats 400000 in
theorem zOv (G:Int→Nat) (bs:List Int) (q:Int→Option (Nat × Nat)) (mp:Int) (n p:Nat) (bufv pgs:Value) (w:World) (h:zAH tg G bs q mp n p bufv pgs w) (hz:∀ i,i < -10000∨10000<i→G i=0) (hs:tot2 G+bs.length<9007199254740992) :
    Calls Tryz.prog 262 #[.pointer (some ⟨p,0,none⟩)] w fun e w'=>e = .returned (.float .f64 (nf (bs.length+tot2 G)))∧w'=w:=by
  obtain ⟨ao,n1,cb,rfl⟩:=zAR h.core.buf
  obtain rfl:=zAo h.core.buf
  obtain ⟨aq,n2,cq,hpgs⟩:=zAR h.core.row
  have hnq:n2=n:=by have h2:=h.core.row; rw [hpgs] at h2; exact zAo h2
  subst hnq
  obtain ⟨d0,d1,d2,d3,d4,d5⟩:=h.core.fields.cells
  rw [hpgs] at d2
  have hcv:=fun w:World=>run_convert_int_float (P:=Tryz.prog) w 3 29 .i64 .f64 ((bs.length:Nat):Int) (by simp [Tryz.underlying3]) Tryz.underlying29
  have hcum:∀ y,cum G y≤tot2 G:=fun y=>by
    by_cases c:y≤10001
    · exact zCR G y c
    · rw [zBv,zBM G 10001 y (by omega) (fun i h1 _=>hz i (.inr (by omega)))]; omega
  have hend:cum G (32*(mp+n2))=tot2 G:=by
    by_cases c:32*(mp+n2)≤10001
    · exact (zKM G _ c (fun i hi=>h.high hi)).symm
    · rw [zBv,zBM G 10001 _ (by omega) (fun i h1 _=>hz i (.inr (by omega)))]
  have hbig:n2<1000000000:=by rcases h.bd with ⟨h1,_,_⟩ | ⟨_,h2,h3⟩ <;> omega
  have HCV:=Lib.hid hcv
  have HH:=Lib.hid h
  have HP:=Lib.hid hpgs
  have HZ:Hid (∀ i,i < -10000→G i=0):=fun i hi=>hz i (.inl hi)
  have HS:=Lib.hid hs
  have HC:=Lib.hid hcum
  have HE:=Lib.hid hend
  have hnn:floatOfInt .f64 ((bs.length:Nat):Int)=nf bs.length:=rfl
  clear h hpgs hz hs hcum hend
  obtain ⟨L,hL⟩:∃ L,L=bs.length:=⟨_,rfl⟩
  have HL:=Lib.hid hL
  rw [← hL] at d0 hcv hnn
  rw [← hL]
  clear hL HCV
  go_enter Tryz.func262,Tryz.ntmps262
  go_wp2
  go_loopw [3,19] (fun v i wr=>zXp G L mp n2 w wr v i) (fun _ i _=>n2 - (intOf i).toNat)
  case atStart=>exact ⟨0,Nat.zero_le _,rfl,by rw [zBF G _ (fun i hi=>HH.out.low (by omega))]; rfl,rfl⟩
  case round =>
    obtain ⟨j,hj,rfl,rfl,rfl⟩:=hrel
    by_cases hlt:j<n2
    · obtain ⟨g,c0,hg2,hgc,hcell⟩:=HH.out.rowAt (by omega)
      rw [HP.out] at hg2
      cases hg2
      have hc:=hcell j hlt
      have hltI:(j:Int)<(n2:Int):=by omega
      have i1:IntKind.i64.wrap ((j:Int)+1)=(j:Int)+1:=by rw [IntKind.wrap_i64]; omega
      cases hq:q (mp+(j:Int)) with
      | none =>
        rw [hq] at hc
        replace hc:wr.cell? ⟨g,j,none⟩=some (.slice none 0 0):=hc
        have hsame:cum G (32*(mp+((j+1:Nat):Int)))=cum G (32*(mp+(j:Int))):=zBM G _ _ (by omega) (fun i h1 h2=>HH.out.hole hq h1 (by omega))
        have HSM:=Lib.hid hsame
        clear hcell hsame hq
        go_wp2
        go_loopw [3,25] (fun v i wr2=>i = .int .i64 0∧v = .float .f64 (nf (L+cum G (32*(mp+(j:Int)))))∧wr2=wr) (fun _ _ _=>0)
        case atStart=>exact ⟨rfl,rfl,rfl⟩
        case round =>
          obtain ⟨rfl,rfl,rfl⟩:=hrel
          go_wp2
          go_roundw
          case rel=>exact ⟨j+1,by omega,by go_num,by rw [HSM.out],rfl⟩
          case measure=>simp [intOf]; omega
      | some z =>
        obtain ⟨b,cp⟩:=z
        rw [hq] at hc
        replace hc:wr.cell? ⟨g,j,none⟩=some (.slice (some ⟨b,0,none⟩) 32 cp):=hc
        have hrow:=HH.out.core.page _ _ _ hq
        have HR:=Lib.hid hrow
        clear hcell hrow hq
        go_wp2
        go_loopw [3,25] (fun v i wr2=>zXo G L (mp+(j:Int)) wr wr2 v i) (fun _ i _=>32 - (intOf i).toNat)
        case atStart=>exact ⟨0,by omega,rfl,by rw [show 32*(mp+(j:Int))+((0:Nat):Int)=32*(mp+(j:Int)) from by omega],rfl⟩
        case round =>
          obtain ⟨k,hk,rfl,rfl,rfl⟩:=hrel
          by_cases hk32:k<32
          · have hkI:(k:Int)<32:=by omega
            have i2:IntKind.i64.wrap ((k:Int)+1)=(k:Int)+1:=by rw [IntKind.wrap_i64]; omega
            have c0:=HR.out.cell k hk32
            have hst:=zI4 HZ.out (32*(mp+(j:Int))+(k:Int))
            have hle:=HC.out (32*(mp+(j:Int))+(k:Int)+1)
            have hadd:=fun w:World=>run_float_arith (P:=Tryz.prog) w .add 29 .f64 _ _ _ (zAz (L+cum G (32*(mp+(j:Int))+(k:Int))) (G (32*(mp+(j:Int))+(k:Int))) (by have:=HS.out; have:=HL.out; omega))
            rw [Nat.add_assoc,← hst] at hadd
            clear hst hle
            obtain ⟨y,hy⟩:∃ y,y=nf (G (32*(mp+(j:Int))+(k:Int))):=⟨_,rfl⟩
            rw [← hy] at c0 hadd
            clear hy
            obtain ⟨z,hz⟩:∃ z,z=nf (L+cum G (32*(mp+(j:Int))+(k:Int)+1)):=⟨_,rfl⟩
            rw [← hz] at hadd
            have HZZ:=Lib.hid hz
            clear hz
            go_wp2
            go_roundw
            case rel=>exact ⟨k+1,by omega,by go_num,by rw [HZZ.out,show 32*(mp+(j:Int))+((k+1:Nat):Int)=32*(mp+(j:Int))+(k:Int)+1 from by omega],rfl⟩
            case measure=>simp [intOf]; omega
          · obtain rfl:k=32:=by omega
            clear hk32 hk
            go_wp2
            go_roundw
            case rel=>exact ⟨j+1,by omega,by go_num,by rw [show 32*(mp+((j+1:Nat):Int))=32*(mp+(j:Int))+((32:Nat):Int) from by omega],rfl⟩
            case measure=>simp [intOf]; omega
    · obtain rfl:j=n2:=by omega
      clear hlt
      go_wp2
      go_ret
      exact ⟨by rw [← HE.out]; rfl,rfl⟩
end Go.Proofs.YtllaekopaglolaaGreat
end
/-
  The store with pages: MinIndex. (Printed by gen_page11.py.)
-/
section
namespace Go.Proofs.YtllaekopaglolaaGreat
open Go.RowKit
variable {tg:Int}
theorem zHk {w:World} {ao:Option Addr} {cb:Nat} {bs:List Int} (h:w.ownsRow 0 3 1 (.slice ao bs.length cb) bs.length (bs.map (Value.int .i64))) (h0:0<bs.length) :
    ∃ g,ao=some ⟨g,0,none⟩∧∀ k,(hk:k<bs.length)→w.cell? ⟨g,k,none⟩=some (.int .i64 bs[k]):=by
  obtain ⟨hl,hg⟩:=zIr h
  rcases hl with h1 | h1
  · rw [h1] at h0; simp at h0
  · exact h1
end Go.Proofs.YtllaekopaglolaaGreat
end
/-
  The store with pages: an empty one's least and greatest index; the buffer sorted.
-/
section
namespace Go.Proofs.YtllaekopaglolaaGreat
open Go.RowKit
variable {tg:Int}
theorem zAH.bufSet {G:Int→Nat} {bs bs':List Int} {q:Int→Option (Nat × Nat)} {mp:Int} {n p:Nat} {bufv pgs:Value} {w w':World} (h:zAH tg G bs q mp n p bufv pgs w) (hown:w'.ownsRow 0 3 1 bufv bs'.length (bs'.map (Value.int .i64))) (hgr:w.grownBy w' bufv.ownBlock) :
    zAH tg G bs' q mp n p bufv pgs w':=by
  have hbp:bufv.ownBlock≠some p:=fun e=>by obtain ⟨_,hc⟩:=zAW h.core.buf e; exact zAr hc h.core.fields (by decide) rfl
  have hf:PS w' p bufv tg pgs mp:=(hgr.block p h.core.fields.lt (fun e=>hbp e.symm)).trans h.core.fields
  refine ⟨⟨hf,hown,?_,fun x b cp hx=>?_,h.core.zero,h.core.inj⟩,h.inside,h.bd⟩
  · refine h.core.row.kept hgr ?_
    cases e:pgs.ownBlock with
    | none=>exact .inl rfl
    | some k =>
      right; intro e2
      obtain ⟨_,hc⟩:=zAW h.core.row e; obtain ⟨_,hc2⟩:=zAW h.core.buf e2.symm; exact zAr hc hc2 (by decide) rfl
  · obtain ⟨_,hc,_⟩:=(h.core.page x b cp hx).block
    refine World.ownsRow.kept (h.core.page x b cp hx) hgr (.inr (fun e=>?_))
    obtain ⟨_,hc2⟩:=zAW h.core.buf e.symm
    exact zAr hc hc2 (by decide) rfl
def zTX (tg:Int) (G:Int→Nat) (bs:List Int) (q:Int→Option (Nat × Nat)) (mp:Int) (n p:Nat) (bufv pgs:Value) (w:World) (e:Ending) (w':World):Prop :=
  ∃ bs',e = .returned (.tuple #[])∧bs'.Perm bs∧bs'.Pairwise (· ≤ ·)∧zAH tg G bs' q mp n p bufv pgs w'∧Fr (fun k=>bufv.ownBlock=some k) w w'
set_option maxRecDepth 100000 in
set_option maxHeartbeats 400000 in
theorem zGu (G:Int→Nat) (bs:List Int) (q:Int→Option (Nat × Nat)) (mp:Int) (n p:Nat) (bufv pgs:Value) (w:World) (h:zAH tg G bs q mp n p bufv pgs w) (hl:bs.length<1000000000) :
    Calls Tryz.prog 267 #[.pointer (some ⟨p,0,none⟩)] w fun e w'=>zTX tg G bs q mp n p bufv pgs w e w':=by
  obtain ⟨d0,-,-,-,-,-⟩:=h.core.fields.cells
  rcases id h.core.buf.2 with ⟨hv,hl0⟩ | ⟨g,cap,cur,hv,hb,hg,hn,hmx,hsz,ht⟩
  · subst hv
    have hbs:bs=[]:=List.eq_nil_of_length_eq_zero hl0
    subst hbs
    have HS:=fun w=>Tryz.sort_Ints_none none 0 w
    have HH:=Lib.hid h
    clear h
    go_enter Tryz.func267,Tryz.ntmps267
    go_wp2_with (go_at_call 273; (with_reducible refine (HS _).mono ?_); rintro e w7 ⟨rfl,rfl⟩)
    go_end0
    exact ⟨[],rfl,List.Perm.refl _,List.Pairwise.nil,HH.out,Fr.refl _ _⟩
  · subst hv
    rw [Nat.mul_one] at ht
    have hH:=holds_of_blockI hg ht
    have HS:=Tryz.sort_Ints g 0 cap bs w hH (lt_of_block hg) (by omega)
    have HH:=Lib.hid h
    have HG2:=Lib.hid hg
    have HSZ:=Lib.hid hsz
    clear h hg hH hsz ht
    go_enter Tryz.func267,Tryz.ntmps267
    go_wp2_with (go_at_call 273; (with_reducible refine HS.mono ?_); rintro e w7 ⟨rfl,nn,os,rfl⟩)
    go_end0
    have hp:=List.mergeSort_perm bs (fun x y=>decide (x≤y))
    have hrow:=ownsRow_sortedI (base:=0) (n:=nn) (os:=os) hp.length_eq hb HG2.out hn hmx HSZ.out
    have hgr:=grownBy_sortedI (w:=w) (g:=g) (n:=nn) (os:=os) (bs.mergeSort fun x y=>decide (x≤y)).toArray
    have hle:=hp.length_eq
    refine ⟨bs.mergeSort fun x y=>decide (x≤y),rfl,hp,?_,HH.out.bufSet (by rw [hle]; exact hrow) hgr,⟨hgr.os,hgr.tape,hgr.output,hgr.size,fun k hk hne=>hgr.block k hk (fun e=>hne e.symm)⟩⟩
    have h:=List.pairwise_mergeSort (le:=fun x y:Int=>decide (x≤y)) (fun a b c h1 h2=>by simp at h1 h2 ⊢; omega) (fun a b=>by simp; omega) bs
    exact h.imp (fun h=>by simpa using h)
end Go.Proofs.YtllaekopaglolaaGreat
end
