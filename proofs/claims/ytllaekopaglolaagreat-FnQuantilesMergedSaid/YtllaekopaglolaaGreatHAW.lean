/-
  The store with pages: a page is given where the row of pages is made longer. (Printed by gen_page3.py.)
-/
import Derived.Test.YtllaekopaglolaaGreatHAU
import Derived.Test.YtllaekopaglolaaGreatHAR
section
namespace Go.Proofs.YtllaekopaglolaaGreat
open Go.RowKit
variable {tg:Int}
theorem zA6.copied {G:Int→Nat} {bs:List Int} {q:Int→Option (Nat × Nat)} {a:Nat→Value} {mp:Int} {n k p:Nat} {bufv:Value} {g c0:Nat} {w:World}
   (h:zA6 tg G bs q a mp (n+k) p bufv (.slice (some ⟨g,0,none⟩) (n+k) c0) w) :
    ∃ cur,w.heap[g]?=some (.cells cur 23 (0,0))∧k+n≤cur.size ∧
      zA6 tg G bs q (fun j=>if k≤j then a (j - k) else a j) mp (n+k) p bufv (.slice (some ⟨g,0,none⟩) (n+k) c0) (w.setRow g (cur.toList.take k++(rowV a n++cur.toList.drop (k+n))).toArray)∧Fr (fun b=>b=g) w (w.setRow g (cur.toList.take k++(rowV a n++cur.toList.drop (k+n))).toArray):=by
  obtain ⟨cur0,hcg⟩:=zAW h.row (k:=g) rfl
  rcases id h.row.2 with ⟨h1,_⟩ | ⟨g',cap,cur,h1,_,hg,hn,hm,hs,ht⟩
  · cases h1
  cases h1
  rw [Nat.mul_one] at hs ht
  have hfr:=zFP w g (cur.toList.take k++(rowV a n++cur.toList.drop (k+n))).toArray
  refine ⟨cur,hg,by omega,⟨h.fields.fr hfr (fun e=>zAr hcg h.fields (by decide) e.symm),hfr.owns h.buf (fun b hb e=>?_),⟨by rw [zAt,Nat.mul_one],.inr ⟨g,c0,_,rfl,Nat.zero_le _,setRow_heap w g cur _ _ _ hg,hn,hm,?_,?_⟩⟩,fun x b cp hx=>(h.page x b cp hx).fr hfr (fun e=>?_),h.zero,h.inj⟩,hfr⟩
  · obtain ⟨_,hc⟩:=zAW h.buf hb; exact zAr hc hcg (by decide) e
  · simp only [List.size_toArray,List.length_append,List.length_take,List.length_drop,Array.length_toList,zAt]; omega
  · rw [Nat.mul_one]
    apply List.ext_getElem?
    intro i
    by_cases hi:i<n+k
    · rw [zBm _ _ _ hi,List.getElem?_take_of_lt hi]
      show (cur.toList.take k++(rowV a n++cur.toList.drop (k+n)))[i]?=_
      by_cases c1:i<k
      · rw [List.getElem?_append_left (by simp; omega),List.getElem?_take_of_lt c1,if_neg (by omega)]
        have:=zBm a (n+k) i hi
        rw [← ht,List.getElem?_take_of_lt hi] at this
        exact this
      · have e1:(cur.toList.take k).length=k:=by simp; omega
        rw [List.getElem?_append_right (by omega),e1,List.getElem?_append_left (by rw [zAt]; omega),zBm _ _ _ (by omega),if_pos (by omega)]
    · rw [List.getElem?_eq_none (by rw [List.length_take]; omega),List.getElem?_eq_none (by rw [zAt]; omega)]
  · obtain ⟨_,hc,_⟩:=(h.page x b cp hx).block; exact zAr hc hcg (by decide) e
theorem zTw (q:Int→Option (Nat × Nat)) (mp:Int) (n:Nat):∀ u∈rowV (fun j=>pgV (q (mp+(j:Int)))) n,u.oneCell'=true:=by
  intro u h
  obtain ⟨j,_,rfl⟩:=List.mem_map.1 h
  cases q (mp+(j:Int)) with
  | none=>rfl
  | some z=>rfl
theorem Tryz.sizeSF (w:World):(sizeOf 23).run Tryz.prog w = .ok 1 w:=by kernel_rfl
theorem Tryz.oneSF:(Tryz.prog.info? 23).map (·.size)=some 1:=by kernel_rfl
def zXQ (tg:Int) (G:Int→Nat) (bs:List Int) (q:Int→Option (Nat × Nat)) (a:Nat→Value) (mp:Int) (n k p:Nat) (bufv:Value) (g c0:Nat) (w wr:World) (i:Value):Prop :=
  ∃ t:Nat,t≤k∧i = .int .i64 (t:Int)∧zA6 tg G bs q (fun j=>if j<t then .slice none 0 0 else a j) mp (n+k) p bufv (.slice (some ⟨g,0,none⟩) (n+k) c0) wr∧Fr (fun b=>b=g) w wr
set_option maxRecDepth 100000 in
set_option maxHeartbeats 800000 in
theorem zR1 (G:Int→Nat) (bs:List Int) (q:Int→Option (Nat × Nat)) (mp:Int) (n p:Nat) (bufv pgs:Value) (pi:Int) (w:World) (h:zAH tg G bs q mp n p bufv pgs w) (hn:0<n) (hi:pi<mp) (hp1:-320≤pi) (hp2:pi≤320) :
    Calls Tryz.prog 263 #[.pointer (some ⟨p,0,none⟩),.int .i64 pi,.bool true] w fun e w'=>zC3 tg G bs q p bufv pgs pi w e w':=by
  have hbd:-330≤mp∧mp+(n:Int)≤330:=by rcases h.bd with ⟨h1,_,_⟩ | ⟨_,h2,h3⟩ <;> omega
  obtain ⟨g0,c00,hpgs,-,-⟩:=h.rowAt hn
  obtain ⟨d0,d1,d2,d3,d4,d5⟩:=h.core.fields.cells
  rw [hpgs] at d2
  have q1:decide (mp≤pi)=false:=by simp; omega
  obtain ⟨r,hr⟩:∃ r:Nat,(r:Int)=mp - pi+1+(n:Int):=⟨(mp - pi+1+(n:Int)).toNat,by omega⟩
  have H4:=fun w=>zCt (.pointer (some ⟨p,0,none⟩)) r (by omega) w
  obtain ⟨k,hk⟩:∃ k:Nat,(r+7) / 8*8=n+k:=⟨(r+7) / 8*8 - n,by omega⟩
  rw [hr,hk,show ((n+k:Nat):Int)=(n:Int)+(k:Int) from by omega] at H4
  have H5:∀ w,Calls Tryz.prog 272 #[.pointer (some ⟨p,0,none⟩),.int .i64 (mp - pi+1+(n:Int))] w fun e w'=>e = .returned (.int .i64 ((n:Int)+(k:Int)))∧w'=w:=fun w=>(H4 w).mono fun _ _ h=>⟨h.1,h.2.symm⟩
  have i3:IntKind.i64.wrap (mp - pi)=mp - pi:=by rw [IntKind.wrap_i64]; omega
  have i4:IntKind.i64.wrap (mp - pi+1)=mp - pi+1:=by rw [IntKind.wrap_i64]; omega
  have i7:IntKind.i64.wrap (mp - pi+1+(n:Int))=mp - pi+1+(n:Int):=by rw [IntKind.wrap_i64]; omega
  have i5:IntKind.i64.wrap ((n:Int)+(k:Int) - (n:Int))=(k:Int):=by rw [IntKind.wrap_i64]; omega
  have i6:IntKind.i64.wrap (k:Int)=(k:Int):=by rw [IntKind.wrap_i64]; omega
  have i8:IntKind.i64.wrap (mp - (k:Int))=mp - (k:Int):=by rw [IntKind.wrap_i64]; omega
  have hk0:0<k:=by omega
  have hkm:k<10000:=by omega
  have hnm:n<10000:=by omega
  have hlo:-330≤mp - (k:Int):=by omega
  have hin:mp - (k:Int)≤pi:=by omega
  have hne:¬ mp=9223372036854775807:=by omega
  have hnone:∀ x,x<mp→q x=none:=fun x hx=>by
    cases hx2:q x with
    | none=>rfl
    | some z=>obtain ⟨b,cp⟩:=z; have:=h.inside x b cp hx2; omega
  have HQ:=Lib.hid (hnone pi hi)
  have HIN:Hid (∀ x b cp,q x=some (b,cp)→mp≤x∧x<mp+(n:Int) ∧ -320≤x∧x≤320):=h.inside
  have HNONE:=Lib.hid hnone
  have HPI:=Lib.hid (And.intro hp1 hp2)
  have HP:=Lib.hid hpgs
  have HH:=Lib.hid h
  have HR:=Lib.hid hr
  have HK:=Lib.hid hk
  clear h hnone hpgs hr hk
  go_enter Tryz.func263,Tryz.ntmps263
  go_wp2
  go_quiet (fail)
  obtain ⟨wa,hwa⟩:∃ wa,wa=w.drewN nq:=⟨_,rfl⟩
  have HHa:Hid (zAH tg G bs q mp n p bufv pgs wa):=by show zAH tg _ _ _ _ _ _ _ _ _; rw [hwa]; exact HH.out.drewN nq
  have HFa:Hid (Fr (zAS q p (.slice none 0 0) pgs) w wa):=by show Fr _ _ _; rw [hwa]; exact (Fr.refl _ w).drewN nq
  rw [← hwa]
  clear hwa HH d0 d1 d2 d3 d4 d5
  obtain ⟨d0,d1,d2,d3,d4,d5⟩:=HHa.out.core.fields.cells
  rw [HP.out] at d2
  go_wp2
  go_quiet ((go_at_call 272; (with_reducible exact Calls.quiet_of_same (H5 _))))
  obtain ⟨w0,hw0⟩:∃ w0,w0=wa.drewN nq:=⟨_,rfl⟩
  have HH0:Hid (zAH tg G bs q mp n p bufv pgs w0):=by show zAH tg _ _ _ _ _ _ _ _ _; rw [hw0]; exact HHa.out.drewN nq
  have HF0:Hid (Fr (zAS q p (.slice none 0 0) pgs) w w0):=by show Fr _ _ _; rw [hw0]; exact HFa.out.drewN nq
  rw [← hw0]
  clear hw0 HHa HFa d0 d1 d2 d3 d4 d5
  obtain ⟨d0,d1,d2,d3,d4,d5⟩:=HH0.out.core.fields.cells
  rw [HP.out] at d2
  have f2:=HH0.out.core.fields.free 2
  clear q1 i3 i4 i7
  go_wp2_with (at_builtin; refine zGT w0 rfl _ _ 129 3 23 (.slice none 0 0) 24 rfl Tryz.underlying129 Tryz.underlying3 Tryz.infoSF (by decide) rfl rfl (.slice (some ⟨g0,0,none⟩) n c00) n k (rowV (fun j=>pgV (q (mp+(j:Int)))) n) rfl rfl (by rw [← HP.out]; exact HH0.out.core.row) hk0 (by omega) (by omega) ?_; intro v' w1 hgr; have hgr2:=hgr; obtain ⟨g,c0,rfl,-⟩:=hgr2; have HGZ:=Lib.hid hgr; have hPS:=HH0.out.core.after (by rw [HP.out]; exact hgr); have e2:=hPS.cells.2.2.1; have e2f:=hPS.free 2; clear hgr hPS d0 d1 d2 d3 d4 d5 f2)
  have hlong:=HH0.out.core.longer (k:=k) (by rw [HP.out]; exact HGZ.out)
  have hfr:=HGZ.out.fr
  have ha:zA6 tg G bs q (fun j=>pgV (q (mp+(j:Int)))) mp (n+k) p bufv (.slice (some ⟨g,0,none⟩) (n+k) c0) (w1.setCell ⟨p,2,none⟩ (.slice (some ⟨g,0,none⟩) (n+k) c0)):=hlong.ext (fun j hj=>by
    by_cases c:j<n
    · rw [if_pos c]
    · rw [if_neg c]
      cases hx2:q (mp+(j:Int)) with
      | none=>rfl
      | some z=>obtain ⟨b,cp⟩:=z; have:=HH0.out.inside _ b cp hx2; omega)
  have hf0:Fr (zAS q p (.slice none 0 0) pgs) w (w1.setCell ⟨p,2,none⟩ (.slice (some ⟨g,0,none⟩) (n+k) c0)):=(HF0.out.trans hfr.1 (fun _ _ h=>h) (fun j _ h=>.inr (.inr (.inl (by rw [HP.out]; exact h))))).setCell (p:=⟨p,2,none⟩) (fun _=>.inl rfl) _
  have HOW:Hid (∀ g',(Value.slice (some ⟨g,0,none⟩) (n+k) c0).ownBlock=some g'→g'<w.heap.size→zAS q p (.slice none 0 0) pgs g'):=fun g' h1 h2=>by
    have h3:=hfr.2 g' h1
    have h4:=HF0.out.size
    rcases h3 with h3 | h3
    · exact .inr (.inr (.inl (by rw [HP.out]; exact h3)))
    · rw [h3] at h2
      omega
  obtain ⟨V,hV⟩:∃ V,V=w1.setCell ⟨p,2,none⟩ (.slice (some ⟨g,0,none⟩) (n+k) c0):=⟨_,rfl⟩
  rw [← hV] at ha hf0
  rw [← hV]
  have HF1:=Lib.hid hf0
  clear hV hlong hfr hf0 e2 e2f HH0 HF0 HGZ
  obtain ⟨d0,d1,d2,d3,d4,d5⟩:=ha.fields.cells
  obtain ⟨cur,hcur,hcsz,hcp,hcf⟩:=ha.drew.copied
  have hcc0:n+k≤c0:=by
    rcases ha.row.2 with ⟨h1,_⟩ | ⟨g',cap,cur',h1,_,_,h5,_⟩
    · cases h1
    · cases h1; exact h5
  have hsrc:∀ j v,(rowV (fun j=>pgV (q (mp+(j:Int)))) n)[j]?=some v→V.drew.cell? ((⟨g,0,none⟩:Addr).add j)=some v:=by
    intro j v hj
    refine World.ownsRow.cells ha.drew.row (g:=g) rfl j v ?_
    have hjn:j<n:=by
      rcases Nat.lt_or_ge j n with h | h
      · exact h
      · rw [List.getElem?_eq_none (by rw [zAt]; exact h)] at hj; cases hj
    rw [zBm _ _ _ hjn] at hj
    rw [zBm _ _ _ (by omega)]
    exact hj
  have hs1:=zB7 (P:=Tryz.prog) 129 23 Tryz.underlying129 g (n+k) c0 k (by omega) (by omega) Tryz.sizeSF
  rw [Nat.add_sub_cancel] at hs1
  have hmin:n=Nat.min (n+k) n:=(Nat.min_eq_right (by omega)).symm
  have HSRC:=Lib.hid hsrc
  have HCUR:=Lib.hid hcur
  have HCSZ:=Lib.hid hcsz
  have HCP:=Lib.hid hcp
  have HCF:=Lib.hid hcf
  have HMIN:=Lib.hid hmin
  have HLEN:=zAt (fun j=>pgV (q (mp+(j:Int)))) n
  have HONE:=zTw q mp n
  clear hsrc hcur hcsz hcp hcf hmin ha
  go_still_tail 10,(by kernel_rfl)
  show wpList _ _ _ _ _ V.drew
  refine zB6 (w:=V.drew) rfl _ _ 129 129 rfl 23 Tryz.underlying129 Tryz.oneSF g k n (c0 - k) ⟨g,0,none⟩ (n+k) c0 rfl rfl cur 23 HCUR.out (rowV (fun j=>pgV (q (mp+(j:Int)))) n) n HLEN HMIN.out HSRC.out HCSZ.out HONE ?_
  obtain ⟨V1,hV1⟩:∃ V1,V1=V.drew.setRow g (cur.toList.take k++(rowV (fun j=>pgV (q (mp+(j:Int)))) n++cur.toList.drop (k+n))).toArray:=⟨_,rfl⟩
  have HC1:Hid (zA6 tg G bs q (fun j=>if k≤j then pgV (q (mp+((j - k:Nat):Int))) else pgV (q (mp+(j:Int)))) mp (n+k) p bufv (.slice (some ⟨g,0,none⟩) (n+k) c0) V1):=by show zA6 tg _ _ _ _ _ _ _ _ _ _; rw [hV1]; exact HCP.out
  have HFV1:Hid (Fr (zAS q p (.slice none 0 0) pgs) w V1):=by
    show Fr _ _ _
    rw [hV1]
    exact HF1.out.drew.trans HCF.out (fun _ _ h=>h) (fun j hj h=>HOW.out j (by rw [h]; rfl) hj)
  rw [← hV1]
  clear hV1 HCP HCF HSRC HCUR HCSZ HMIN HLEN HONE HF1 d0 d1 d2 d3 d4 d5 hs1
  go_wp2
  go_loopw [11] (fun i wr=>zXQ tg G bs q (fun j=>if k≤j then pgV (q (mp+((j - k:Nat):Int))) else pgV (q (mp+(j:Int)))) mp n k p bufv g c0 V1 wr i) (fun i _=>k - (intOf i).toNat)
  case atStart=>exact ⟨0,Nat.zero_le _,rfl,HC1.out.ext (fun j _=>by rw [if_neg (Nat.not_lt_zero _)]),Fr.refl _ _⟩
  case round =>
    obtain ⟨t,ht,rfl,hcw,hfw⟩:=hrel
    obtain ⟨d0,d1,d2,d3,d4,d5⟩:=hcw.fields.cells
    by_cases hlt:t<k
    · have htI:(t:Int)<(k:Int):=by omega
      have i9:IntKind.i64.wrap ((t:Int)+1)=(t:Int)+1:=by rw [IntKind.wrap_i64]; omega
      have hcell:=World.ownsRow.cellAt hcw.row t (by omega)
      rw [zBm _ _ _ (by omega)] at hcell
      rw [if_neg (Nat.lt_irrefl _)] at hcell
      have hfz:=World.ownsRow.frozenAt hcw.row t
      have htn:(t:Int)<((n:Int)+(k:Int)):=by omega
      have HCW:=Lib.hid hcw
      have HFW:=Lib.hid hfw
      clear hcw hfw
      go_wp2
      go_roundw
      case rel =>
        refine ⟨t+1,by omega,by go_num,(HCW.out.setPage t (.slice none 0 0)).ext (fun j hj=>?_),HFW.out.setCell (p:=⟨g,t,none⟩) (fun _=>rfl) _⟩
        by_cases c:j=t
        · rw [if_pos c,if_pos (by omega)]
        · rw [if_neg c]
          by_cases c2:j<t
          · rw [if_pos c2,if_pos (by omega)]
          · rw [if_neg c2,if_neg (by omega)]
      case measure=>simp [intOf]; omega
    · obtain rfl:t=k:=by omega
      have f3:=hcw.fields.free 3
      have HCW:=Lib.hid hcw
      have HFW:=Lib.hid hfw
      clear hcw hfw
      go_wp2
      have hset:=HCW.out.setMp (mp - (t:Int))
      obtain ⟨m,hm⟩:∃ m:Int,m=mp - (t:Int):=⟨_,rfl⟩
      obtain ⟨V,hV⟩:∃ V,V=wr.setCell ⟨p,3,none⟩ (.int .i64 (mp - (t:Int))):=⟨_,rfl⟩
      have HV:Hid (zAH tg G bs q m (n+t) p bufv (.slice (some ⟨g,0,none⟩) (n+t) c0) V):=by
        show zAH tg _ _ _ _ _ _ _ _ _
        rw [hV,hm]
        refine ⟨hset.ext (fun j hj=>?_),(fun x b cp hx=>?_),.inr ⟨by omega,by omega,by omega⟩⟩
        · by_cases c:j<t
          · rw [if_pos c,HNONE.out _ (by omega)]; rfl
          · rw [if_neg c,if_pos (by omega),show mp+((j - t:Nat):Int)=mp - (t:Int)+(j:Int) from by omega]
        · by_cases c:x<mp
          · rw [HNONE.out x c] at hx; cases hx
          · have:=HIN.out x b cp hx; omega
      have HFV:Hid (Fr (zAS q p (.slice none 0 0) pgs) w V):=by
        show Fr _ _ _
        rw [hV]
        exact (HFV1.out.trans HFW.out (fun _ _ h=>h) (fun j hj h=>HOW.out j (by rw [h]; rfl) hj)).setCell (p:=⟨p,3,none⟩) (fun _=>.inl rfl) _
      rw [← hV]
      clear hV hset HCW HFW HFV1 HC1 f3
      obtain ⟨j,hj⟩:∃ j:Nat,pi=m+(j:Int):=⟨(pi - m).toNat,by omega⟩
      have hjn:j<(n+t):=by omega
      have hjn':(j:Int)<(((n+t):Nat):Int):=by omega
      obtain ⟨hgc,hcell⟩:=HV.out.rowIs (by omega)
      have hc:=hcell j hjn
      rw [← hj,HQ.out] at hc
      replace hc:V.cell? ⟨g,j,none⟩=some (.slice none 0 0):=hc
      obtain ⟨d0,d1,d2,d3,d4,d5⟩:=HV.out.core.fields.cells
      have i2:IntKind.i64.wrap (pi - m)=(j:Int):=by rw [IntKind.wrap_i64]; omega
      have HJ:=Lib.hid hj
      clear hcell hj
      clear hm
      go_wp2
      go_quiet (fail)
      obtain ⟨W,hW⟩:∃ W,W=V.drewN nq:=⟨_,rfl⟩
      have hhW:zAH tg G bs q (m) ((n+t)) p bufv (.slice (some ⟨g,0,none⟩) ((n+t)) c0) W:=by rw [hW]; exact HV.out.drewN nq
      have hcW:W.cell? ⟨g,j,none⟩=some (.slice none 0 0):=by rw [hW]; exact hc
      have HFW:Hid (Fr (zAS q p (.slice none 0 0) pgs) w W):=by show Fr _ _ _; rw [hW]; exact HFV.out.drewN nq
      have HSZ:Hid (W.heap.size=V.heap.size):=by show _=_; rw [hW]; rfl
      rw [← hW]
      have HHW:=Lib.hid hhW
      clear hW hc d0 d1 d2 d3 d4 d5 HV hhW
      go_wp2_with (at_builtin; refine zBU W rfl _ _ 23 3 rfl Tryz.underlying23 Tryz.underlying3 Tryz.infoF64 (.slice none 0 0) 0 32 (fun _=>0) rfl rfl (.inl ⟨rfl,rfl⟩) (by decide) (by decide) (by decide) ?_; intro v' w1 hgr; obtain ⟨b,cp,rfl,hrow,hgrow,hg⟩:=hgr; have hb:b=W.heap.size:=hg.elim (fun h=>by simp [Value.ownBlock] at h) id; have hp1:=HHW.out.grown hgrow; have hc1:w1.cell? ⟨g,j,none⟩=some (.slice none 0 0):=(by have:=(hp1.rowIs (by omega)).2 j hjn; rw [← HJ.out,HQ.out] at this; exact this); have hf1:=World.ownsRow.frozenAt hp1.core.row j; have HRW:=Lib.hid hrow; have HGR:=Lib.hid hgrow; have HB:=Lib.hid hb; clear hrow hgrow hg hb hp1 hcW)
      go_ret
      have hnew:=HHW.out.newPage hjn HJ.out HPI.out HQ.out HRW.out HGR.out HB.out
      refine ⟨_,m,(n+t),_,b,cp,rfl,hnew,by unfold upd; rw [if_pos rfl],?_,fun k hk=>?_⟩
      · exact (HFW.out.trans (T:=fun _=>False) ⟨HGR.out.os,HGR.out.tape,HGR.out.output,HGR.out.size,fun k hk _=>HGR.out.block k hk (by simp [Value.ownBlock])⟩ (fun _ _ h=>h) (fun _ _ h=>h.elim)).setCell (p:=⟨g,j,none⟩) (fun hlt=>HOW.out g rfl hlt) _
      · rcases hk.newPage with h | h
        · rcases h with h | h | h | h
          · exact .inl (.inl h)
          · exact .inl (.inr (.inl h))
          · cases h
            by_cases hlt:g<w.heap.size
            · exact .inl (HOW.out g rfl hlt).more
            · exact .inr (Nat.not_lt.1 hlt)
          · exact .inl (.inr (.inr (.inr h)))
        · right; rw [h,HB.out,HSZ.out]; exact HFV.out.size
end Go.Proofs.YtllaekopaglolaaGreat
end
/-
  The store with pages: Add.
-/
section
namespace Go.Proofs.YtllaekopaglolaaGreat
open Go.RowKit
variable {tg:Int}
def zKK (tg:Int) (G:Int→Nat) (bs:List Int) (q:Int→Option (Nat × Nat)) (p:Nat) (bufv pgs:Value) (i:Int) (c:Nat) (w:World) (e:Ending) (w':World):Prop :=
  ∃ G' bs' q' mp' n' bufv' pgs',e = .returned (.tuple #[])∧zAH tg G' bs' q' mp' n' p bufv' pgs' w'∧both G' bs'=zAe (both G bs) i c∧(bs'=bs∨bs'=bs++[i]) ∧
    (∀ x,G' x=G x∨x=i)∧Fr (zAS q p bufv pgs) w w'∧(∀ k,zAS q' p bufv' pgs' k→zAS q p bufv pgs k∨w.heap.size≤k)
theorem zIT (G:Int→Nat) (bs:List Int) (i:Int) (c:Nat):both (zAe G i c) bs=zAe (both G bs) i c:=by
  funext x
  simp only [both,zAe]
  split <;> omega
theorem zBV (G:Int→Nat) (bs:List Int) (i:Int):both G (bs++[i])=zAe (both G bs) i 1:=by
  funext x
  simp only [both,zFb,zAe]
  split <;> omega
section
variable {G:Int→Nat} {bs:List Int} {q:Int→Option (Nat × Nat)} {mp:Int} {n p:Nat} {bufv pgs:Value} {w:World}
theorem zAH.addTo (h:zAH tg G bs q mp n p bufv pgs w) {b cp:Nat} (i:Int) (c j:Nat) (hj:(j:Int)=i % 32) (hq:q (i / 32)=some (b,cp)) :
    zAH tg (zAe G i c) bs q mp n p bufv pgs (w.setCell ⟨b,j,none⟩ (.float .f64 (nf (G i+c)))):=by
  have hrow:=h.core.page _ _ _ hq
  obtain ⟨cb,hcb,_⟩:=hrow.block
  have hjlt:j<32:=by omega
  have hset:=hrow.set j (G i+c) hjlt
  refine ⟨⟨h.core.fields.other (zAr hcb h.core.fields (by decide)) _,ownsRow_setCell_other h.core.buf (fun e=>?_) _,ownsRow_setCell_other h.core.row (fun e=>?_) _,fun x b2 cp2 hx=>?_,fun x hx k k0 k1=>?_,h.core.inj⟩,h.inside,h.bd⟩
  · obtain ⟨_,hc⟩:=zAW h.core.buf e; exact zAr hc hcb (by decide) rfl
  · obtain ⟨_,hc⟩:=zAW h.core.row e; exact zAr hc hcb (by decide) rfl
  · by_cases hxi:x=i / 32
    · subst hxi
      rw [hq] at hx
      cases hx
      refine hset.ext (fun k hk=>?_)
      unfold zAe
      by_cases c1:(k:Int)=(j:Int)
      · rw [if_pos c1,if_pos (by omega),show 32*(i / 32)+(k:Int)=i from by omega]
      · rw [if_neg c1,if_neg (by omega)]
    · have hne:b2≠b:=fun e=>hxi (h.core.inj x (i / 32) b2 cp2 cp hx (by rw [hq,e]))
      refine ((h.core.page x b2 cp2 hx).other (fun e=>hne e.symm) _).ext (fun k hk=>?_)
      unfold zAe
      rw [if_neg (by omega)]
  · unfold zAe
    by_cases c1:32*x+k=i
    · have:x=i / 32:=by omega
      rw [this,hq] at hx; cases hx
    · rw [if_neg c1]; exact h.core.zero x hx k k0 k1
theorem zAH.bufTo (h:zAH tg G bs q mp n p bufv pgs w) {i:Int} {o:Obj} {w2:World} {v':Value} (hown:w2.ownsRow 0 3 1 v' (bs.length+1) (bs.map (Value.int .i64)++[Value.int .i64 i])) (hgr:(w.alloc o).grownBy w2 bufv.ownBlock) :
    zAH tg G (bs++[i]) q mp n p v' pgs (w2.setCell ⟨p,0,none⟩ v'):=by
  have hbp:bufv.ownBlock≠some p:=fun e=>by obtain ⟨_,hc⟩:=zAW h.core.buf e; exact zAr hc h.core.fields (by decide) rfl
  have hsz:(w.alloc o).heap.size=w.heap.size+1:=by simp
  have hold:∀ k,k<w.heap.size→bufv.ownBlock≠some k→w2.heap[k]?=w.heap[k]?:=fun k hk hne=>(hgr.block k (by omega) (fun e=>hne e.symm)).trans (Below.heap_alloc w o k hk)
  have hf:PS w2 p bufv tg pgs mp:=(hold p h.core.fields.lt hbp).trans h.core.fields
  have hrowne:∀ k,pgs.ownBlock=some k→bufv.ownBlock≠some k:=fun k e e2=>by
    obtain ⟨_,hc⟩:=zAW h.core.row e; obtain ⟨_,hc2⟩:=zAW h.core.buf e2; exact zAr hc hc2 (by decide) rfl
  have hfr:Fr (fun k=>bufv.ownBlock=some k) w w2:=⟨hgr.os,hgr.tape,hgr.output,by have:=hgr.size; omega,fun k hk hn=>hold k hk hn⟩
  refine ⟨⟨hf.set0 v',?_,?_,fun x b cp hx=>?_,h.core.zero,h.core.inj⟩,h.inside,h.bd⟩
  · rw [List.length_append,List.map_append]
    refine ownsRow_setCell_other hown (fun e=>?_) _
    obtain ⟨_,hc⟩:=zAW hown e
    exact zAr hc hf (by decide) rfl
  · refine ownsRow_setCell_other (hfr.owns h.core.row (fun k hk=>hrowne k hk)) (fun e=>?_) _
    obtain ⟨_,hc⟩:=zAW h.core.row e; exact zAr hc h.core.fields (by decide) rfl
  · obtain ⟨_,hc,_⟩:=(h.core.page x b cp hx).block
    refine ((h.core.page x b cp hx).fr hfr (fun e=>?_)).other (fun e=>zAr hc h.core.fields (by decide) e.symm) _
    obtain ⟨_,hc2⟩:=zAW h.core.buf e; exact zAr hc hc2 (by decide) rfl
end
set_option maxRecDepth 100000 in
set_option maxHeartbeats 400000 in
theorem zTT (G:Int→Nat) (bs:List Int) (q:Int→Option (Nat × Nat)) (mp:Int) (n p:Nat) (bufv pgs:Value) (i:Int) (b cp:Nat) (w:World) (h:zAH tg G bs q mp n p bufv pgs w) (hq:q (i / 32)=some (b,cp)) (hs:G i+1<9007199254740992) :
    Calls Tryz.prog 247 #[.pointer (some ⟨p,0,none⟩),.int .i64 i] w fun e w'=>zKK tg G bs q p bufv pgs i 1 w e w':=by
  obtain ⟨hi1,hi2,-⟩:=h.inside _ b cp hq
  have hn:0<n:=by omega
  have hbd:-330≤mp∧mp+(n:Int)≤330:=by rcases h.bd with ⟨h1,_,_⟩ | ⟨_,h2,h3⟩ <;> omega
  obtain ⟨g,c0,rfl,hgc,hcell⟩:=h.rowAt hn
  obtain ⟨pi,hpi⟩:∃ pi,pi=i / 32:=⟨_,rfl⟩
  obtain ⟨j,hj⟩:∃ j:Nat,i / 32 - mp=(j:Int):=⟨(i / 32 - mp).toNat,by omega⟩
  obtain ⟨l,hl⟩:∃ l:Nat,(l:Int)=i % 32:=⟨(i % 32).toNat,by omega⟩
  have hjn:j<n:=by omega
  have hjn':(j:Int)<(n:Int):=by omega
  have hl32:(l:Int)<32:=by omega
  have hc:=hcell j hjn
  rw [show mp+(j:Int)=i / 32 from by omega,hq] at hc
  replace hc:w.cell? ⟨g,j,none⟩=some (.slice (some ⟨b,0,none⟩) 32 cp):=hc
  have hrow:=h.core.page _ _ _ hq
  have hcl:=hrow.cell l (by omega)
  have hfl:=hrow.free l
  rw [show 32*(i / 32)+(l:Int)=i from by omega] at hcl
  obtain ⟨d0,d1,d2,d3,d4,d5⟩:=h.core.fields.cells
  have HPI:=fun w h4=>zCB p i w h4
  have HLI:=fun w h5=>zDk p i w h5
  rw [← hl] at HLI
  rw [← hpi] at HPI hj
  have q1:decide (mp≤pi)=true:=by simp; omega
  have i1:IntKind.i64.wrap (mp+(n:Int))=mp+(n:Int):=by rw [IntKind.wrap_i64]; omega
  have i2:IntKind.i64.wrap (pi - mp)=(j:Int):=by rw [IntKind.wrap_i64]; omega
  have q2:decide (pi<mp+(n:Int))=true:=by simp; omega
  have hadd:=fun w:World=>run_float_arith (P:=Tryz.prog) w .add 29 .f64 _ _ _ (zAz (G i) 1 hs)
  rw [zCs] at hadd
  have HH:=Lib.hid h
  have HQ:=Lib.hid hq
  have HL:=Lib.hid hl
  clear h hq hcell hi1 hi2 hrow hpi hj hl hs
  go_enter Tryz.func247,Tryz.ntmps247
  go_wp2_with (go_at_call 264; (with_reducible refine (HPI _ d4).mono ?_); rintro e w' ⟨rfl,rfl⟩)
  go_quiet (fail)
  obtain ⟨wa,hwa⟩:∃ wa,wa=w.drewN nq:=⟨_,rfl⟩
  have HHa:Hid (zAH tg G bs q mp n p bufv (.slice (some ⟨g,0,none⟩) n c0) wa):=by show zAH tg _ _ _ _ _ _ _ _ _; rw [hwa]; exact HH.out.drewN nq
  have HFa:Hid (Fr (zAS q p bufv (.slice (some ⟨g,0,none⟩) n c0)) w wa):=by show Fr _ _ _; rw [hwa]; exact (Fr.refl _ w).drewN nq
  have hc':wa.cell? ⟨g,j,none⟩=some (.slice (some ⟨b,0,none⟩) 32 cp):=by rw [hwa]; exact hc
  have hcl':wa.cell? ⟨b,l,none⟩=some (.float .f64 (nf (G i))):=by rw [hwa]; exact hcl
  have hfl':wa.frozen? ⟨b,l,none⟩=false:=by rw [hwa]; exact hfl
  rw [← hwa]
  clear hwa HH d0 d1 d2 d3 d4 d5 hc hcl hfl
  obtain ⟨d0,d1,d2,d3,d4,d5⟩:=HHa.out.core.fields.cells
  go_wp2
  go_quiet (fail)
  obtain ⟨wb,hwb⟩:∃ wb,wb=wa.drewN nq:=⟨_,rfl⟩
  have HHb:Hid (zAH tg G bs q mp n p bufv (.slice (some ⟨g,0,none⟩) n c0) wb):=by show zAH tg _ _ _ _ _ _ _ _ _; rw [hwb]; exact HHa.out.drewN nq
  have HFb:Hid (Fr (zAS q p bufv (.slice (some ⟨g,0,none⟩) n c0)) w wb):=by show Fr _ _ _; rw [hwb]; exact HFa.out.drewN nq
  have hcl:wb.cell? ⟨b,l,none⟩=some (.float .f64 (nf (G i))):=by rw [hwb]; exact hcl'
  have hfl:wb.frozen? ⟨b,l,none⟩=false:=by rw [hwb]; exact hfl'
  rw [← hwb]
  clear hwb HHa HFa d0 d1 d2 d3 d4 d5 hc' hcl' hfl'
  obtain ⟨d0,d1,d2,d3,d4,d5⟩:=HHb.out.core.fields.cells
  go_wp2_with (go_at_call 265; (with_reducible refine (HLI _ d5).mono ?_); rintro e w' ⟨rfl,rfl⟩)
  go_end0
  refine ⟨zAe G i 1,bs,q,mp,n,bufv,_,rfl,HHb.out.addTo i 1 l HL.out HQ.out,zIT G bs i 1,.inl rfl,fun x=>?_,HFb.out.setCell (p:=⟨b,l,none⟩) (fun _=>.inr (.inr (.inr ⟨_,_,HQ.out⟩))) _,fun k hk=>.inl hk⟩
  unfold zAe
  by_cases c:x=i
  · exact .inr c
  · rw [if_neg c]; exact .inl rfl
end Go.Proofs.YtllaekopaglolaaGreat
end
