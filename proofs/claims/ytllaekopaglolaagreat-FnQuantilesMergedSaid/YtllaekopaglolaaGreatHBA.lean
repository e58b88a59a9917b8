/-
  The store with pages: Add and AddWithCount,whatever the buffer. (Printed by gen_comp2.py.)
-/
import Derived.Test.YtllaekopaglolaaGreatHAZ
section
namespace Go.Proofs.YtllaekopaglolaaGreat
open Go.RowKit
variable {tg:Int}
def zOs (F:Int→Nat) (L:Nat) (q:Int→Option (Nat × Nat)) (p:Nat) (bufv pgs:Value) (w:World) (e:Ending) (w':World):Prop :=
  ∃ tg' G' bs' q' mp' n' bufv' pgs',e = .returned (.tuple #[])∧zAH tg' G' bs' q' mp' n' p bufv' pgs' w'∧both G' bs'=F∧InI bs'∧bs'.length≤L+1∧Fr (zAS q p bufv pgs) w w'∧(∀ k,zAS q' p bufv' pgs' k→zAS q p bufv pgs k∨w.heap.size≤k)
theorem zKK.gen {G:Int→Nat} {bs:List Int} {q:Int→Option (Nat × Nat)} {p:Nat} {bufv pgs:Value} {i:Int} {c:Nat} {w:World} {e:Ending} {w':World} (h:zKK tg G bs q p bufv pgs i c w e w') (hI:InI bs) (h1:-10000≤i) (h2:i≤10000):zOs (zAe (both G bs) i c) bs.length q p bufv pgs w e w':=by
  obtain ⟨G',bs',q',mp',n',bufv',pgs',h3,h4,h5,h6,_,h8,h9⟩:=h
  refine ⟨tg,G',bs',q',mp',n',bufv',pgs',h3,h4,h5,?_,?_,h8,h9⟩
  rcases h6 with h | h
  · rw [h]; exact hI
  · rw [h]
    intro b hb
    rcases List.mem_append.1 hb with hb | hb
    · exact hI b hb
    · simp at hb; subst hb; exact ⟨h1,h2⟩
  rcases h6 with h | h
  · rw [h]; omega
  · rw [h,List.length_append]; exact Nat.le_refl _
theorem InI.snoc {bs:List Int} (hI:InI bs) {i:Int} (h1:-10000≤i) (h2:i≤10000):InI (bs++[i]):=by
  intro b hb
  rcases List.mem_append.1 hb with hb | hb
  · exact hI b hb
  · simp at hb; subst hb; exact ⟨h1,h2⟩
set_option maxRecDepth 100000 in
set_option maxHeartbeats 800000 in
theorem zTR (G:Int→Nat) (bs:List Int) (q:Int→Option (Nat × Nat)) (mp:Int) (n p:Nat) (bufv pgs:Value) (i:Int) (w:World) (h:zAH tg G bs q mp n p bufv pgs w) (hq:q (i / 32)=none) (hlen:¬ ((bs.length:Nat):Int)<tg) (hlen2:bs.length<1000000000) (hI:InI bs) (hF:∀ x,both G bs x<1000000000) (hi1:-10000≤i) (hi2:i≤10000) :
    Calls Tryz.prog 247 #[.pointer (some ⟨p,0,none⟩),.int .i64 i] w fun e w'=>zOs (zAe (both G bs) i 1) bs.length q p bufv pgs w e w':=by
  obtain ⟨ao,n1,cb,rfl⟩:=zAR h.core.buf
  obtain rfl:=zAo h.core.buf
  obtain ⟨pi,hpi⟩:∃ pi,pi=i / 32:=⟨_,rfl⟩
  obtain ⟨d0,d1,d2,d3,d4,d5⟩:=h.core.fields.cells
  obtain ⟨aq,nq2,cq,hpgs⟩:=zAR h.core.row
  have hnq:nq2=n:=by have h2:=h.core.row; rw [hpgs] at h2; exact zAo h2
  subst hnq
  rw [hpgs] at d2
  have hbd:(nq2=0∧mp=9223372036854775807)∨(0<nq2 ∧ -330≤mp∧mp+(nq2:Int)≤330):=by rcases h.bd with ⟨h1,h2,_⟩ | h2; exact .inl ⟨h1,h2⟩; exact .inr h2
  have HPI:=fun w h4=>zCB p i w h4
  rw [← hpi] at HPI
  have hp1:-320≤pi:=by omega
  have hp2:pi≤320:=by omega
  have hlen':tg≤((bs.length:Nat):Int):=by omega
  have hl64:decide (tg≤((bs.length:Nat):Int))=true:=by simpa using hlen'
  have HI:=Lib.hid hI
  have HFF:=Lib.hid hF
  have HP:=Lib.hid hpgs
  have HH:=Lib.hid h
  have HQ:Hid (q pi=none):=by rw [hpi]; exact hq
  clear h hpgs hq hpi hI hF hlen
  by_cases c1:mp≤pi
  · have q1:decide (mp≤pi)=true:=by simpa using c1
    have hbd2:0<nq2 ∧ -330≤mp∧mp+(nq2:Int)≤330:=by omega
    have i1:IntKind.i64.wrap (mp+(nq2:Int))=mp+(nq2:Int):=by rw [IntKind.wrap_i64]; omega
    by_cases c2:pi<mp+(nq2:Int)
    · have q2:decide (pi<mp+(nq2:Int))=true:=by simpa using c2
      obtain ⟨g,c0,hg2,hgc,hcell⟩:=HH.out.rowAt hbd2.1
      rw [HP.out] at hg2
      cases hg2
      obtain ⟨j,hj⟩:∃ j:Nat,pi - mp=(j:Int):=⟨(pi - mp).toNat,by omega⟩
      have i2:IntKind.i64.wrap (pi - mp)=(j:Int):=by rw [IntKind.wrap_i64]; omega
      have hjn':(j:Int)<(nq2:Int):=by omega
      have hc:=hcell j (by omega)
      rw [show mp+(j:Int)=pi from by omega,HQ.out] at hc
      replace hc:w.cell? ⟨g,j,none⟩=some (.slice none 0 0):=hc
      clear hcell hj
      go_enter Tryz.func247,Tryz.ntmps247
      go_wp2_with (go_at_call 264; (with_reducible refine (HPI _ d4).mono ?_); rintro e w' ⟨rfl,rfl⟩)
      go_quiet (fail)
      obtain ⟨wa,hwa⟩:∃ wa,wa=w.drewN nq:=⟨_,rfl⟩
      have HHa:Hid (zAH tg G bs q mp nq2 p (.slice ao bs.length cb) pgs wa):=by show zAH tg _ _ _ _ _ _ _ _ _; rw [hwa]; exact HH.out.drewN nq
      have HFa:Hid (Fr (zAS q p (.slice ao bs.length cb) pgs) w wa):=by show Fr _ _ _; rw [hwa]; exact (Fr.refl _ w).drewN nq
      have hc':wa.cell? ⟨g,j,none⟩=some (.slice none 0 0):=by rw [hwa]; exact hc
      rw [← hwa]
      clear hwa HH d0 d1 d2 d3 d4 d5 hc
      obtain ⟨d0,d1,d2,d3,d4,d5⟩:=HHa.out.core.fields.cells
      rw [HP.out] at d2
      go_wp2
      go_quiet (fail)
      obtain ⟨wc,hwc⟩:∃ wc,wc=wa.drewN nq:=⟨_,rfl⟩
      have HHc:Hid (zAH tg G bs q mp nq2 p (.slice ao bs.length cb) pgs wc):=by show zAH tg _ _ _ _ _ _ _ _ _; rw [hwc]; exact HHa.out.drewN nq
      have HFc:Hid (Fr (zAS q p (.slice ao bs.length cb) pgs) w wc):=by show Fr _ _ _; rw [hwc]; exact HFa.out.drewN nq
      rw [← hwc]
      clear hwc HHa HFa d0 d1 d2 d3 d4 d5 hc'
      obtain ⟨wa,rfl⟩:∃ wa,wa=wc:=⟨_,rfl⟩
      have HHa:=HHc
      have HFa:=HFc
      clear HHc HFc
      obtain ⟨d0,d1,d2,d3,d4,d5⟩:=HHa.out.core.fields.cells
      rw [HP.out] at d2
      go_wp2
      by_cases hcap:bs.length=cb
      · subst hcap
        go_quiet (fail)
        obtain ⟨wb,hwb⟩:∃ wb,wb=wa.drewN nq:=⟨_,rfl⟩
        have HHb:Hid (zAH tg G bs q mp nq2 p (.slice ao bs.length bs.length) pgs wb):=by show zAH tg _ _ _ _ _ _ _ _ _; rw [hwb]; exact HHa.out.drewN nq
        have HFb:Hid (Fr (zAS q p (.slice ao bs.length bs.length) pgs) w wb):=by show Fr _ _ _; rw [hwb]; exact HFa.out.drewN nq
        rw [← hwb]
        clear hwb HHa HFa d0 d1 d2 d3 d4 d5
        have hCP:=zEw G bs q mp nq2 p ao bs.length pgs wb HHb.out HI.out HFF.out (by omega)
        have HCP:=Lib.hid hCP
        clear hCP
        go_wp2_with (first | (go_at_call 266; (with_reducible refine HCP.out.mono ?_); rintro e9 wc ⟨rfl,tg9,l,G9,q9,mp9,n9,pgs9,hP9,hb9,hI9,hl9,hf9,hft9⟩; have d0:=hP9.core.fields.cells.1; have ho1:=hP9.core.buf; have HP9:=Lib.hid hP9; have HB9:=Lib.hid hb9; have HI9:=Lib.hid hI9; have HF9:=Lib.hid hf9; have HT9:=Lib.hid hft9; clear hP9 hb9 hI9 hf9 hft9 HCP) | (at_builtin; refine zAV wc (Value.int .i64 i) rfl _ _ 128 3 rfl (.int .i64 0) 8 Tryz.underlying128 Tryz.infoInt rfl rfl (.slice ao l.length bs.length) l.length (l.map (Value.int .i64)) rfl ho1 rfl (by omega) (by decide) ?_; intro ao1 cp1 w2 hown2 hgrow hblk; have hPS:=HP9.out.bufAfter hgrow; have e0:=hPS.1.cells.1; have e0f:=hPS.1.free 0; have HO2:=Lib.hid hown2; have HGR:=Lib.hid hgrow; have HBK:=Lib.hid hblk; have HPF:=Lib.hid hPS.2; clear hown2 hgrow hblk hPS ho1 d0))
        go_end0
        have hwb:=HFb.out.size
        refine ⟨tg9,G9,l++[i],q9,mp9,n9,_,pgs9,rfl,HP9.out.bufTo HO2.out HGR.out,by rw [zBV,HB9.out],HI9.out.snoc hi1 hi2,by rw [List.length_append]; exact Nat.succ_le_succ hl9,?_,fun k hk=>?_⟩
        · refine (((HFb.out.trans HF9.out (fun _ _ h=>h) (fun _ _ h=>h)).trans HPF.out (fun _ _ h=>h) (fun j hj h=>?_))).setCell (p:=⟨p,0,none⟩) (fun _=>.inl rfl) _
          rcases HT9.out j (.inr (.inl h)) with h2 | h2
          · exact h2
          · omega
        · have hsz9:=HF9.out.size
          have hold:∀ b,zAS q9 p (.slice ao l.length bs.length) pgs9 b→zAS q p (.slice ao bs.length bs.length) pgs b∨w.heap.size≤b:=fun b hb=>(HT9.out b hb).imp id (fun h=>by omega)
          rcases hk with h | h | h
          · exact .inl (.inl h)
          · rcases HBK.out with h2 | h2
            · exact hold k (.inr (.inl (h2.symm.trans h)))
            · right
              rw [h2] at h
              have:=Option.some.inj h
              omega
          · exact hold k (.inr (.inr h))
      · have hcp1:decide (((bs.length:Nat):Int)=((cb:Nat):Int))=false:=by simp; omega
        have hcp2:(((bs.length:Nat):Int) == ((cb:Nat):Int))=false:=by simp; omega
        have hcp3:¬ ((bs.length:Nat):Int)=((cb:Nat):Int):=by omega
        have hcp4:decide (bs.length=cb)=false:=by simpa using hcap
        have hcp5:(bs.length == cb)=false:=by simpa using hcap
        go_quiet (fail)
        obtain ⟨wb,hwb⟩:∃ wb,wb=wa.drewN nq:=⟨_,rfl⟩
        have HHb:Hid (zAH tg G bs q mp nq2 p (.slice ao bs.length cb) pgs wb):=by show zAH tg _ _ _ _ _ _ _ _ _; rw [hwb]; exact HHa.out.drewN nq
        have HFb:Hid (Fr (zAS q p (.slice ao bs.length cb) pgs) w wb):=by show Fr _ _ _; rw [hwb]; exact HFa.out.drewN nq
        rw [← hwb]
        clear hwb HHa HFa d0 d1 d2 d3 d4 d5
        obtain ⟨d0,d1,d2,d3,d4,d5⟩:=HHb.out.core.fields.cells
        have ho1:=HHb.out.core.buf
        go_wp2_with (at_builtin; refine zAV wb (Value.int .i64 i) rfl _ _ 128 3 rfl (.int .i64 0) 8 Tryz.underlying128 Tryz.infoInt rfl rfl (.slice ao bs.length cb) bs.length (bs.map (Value.int .i64)) rfl ho1 rfl (by omega) (by decide) ?_; intro ao1 cp1 w2 hown2 hgrow hblk; have hPS:=HHb.out.bufAfter hgrow; have e0:=hPS.1.cells.1; have e0f:=hPS.1.free 0; have HO2:=Lib.hid hown2; have HGR:=Lib.hid hgrow; have HBK:=Lib.hid hblk; have HPF:=Lib.hid hPS.2; clear hown2 hgrow hblk hPS ho1 d0 d1 d2 d3 d4 d5)
        go_end0
        refine ⟨tg,G,bs++[i],q,mp,nq2,_,pgs,rfl,HHb.out.bufTo HO2.out HGR.out,zBV G bs i,HI.out.snoc hi1 hi2,by rw [List.length_append]; exact Nat.le_refl _,?_,fun k hk=>?_⟩
        · exact (HFb.out.trans HPF.out (fun _ _ h=>h) (fun j _ h=>.inr (.inl h))).setCell (p:=⟨p,0,none⟩) (fun _=>.inl rfl) _
        · rcases hk with h | h | h
          · exact .inl (.inl h)
          · rcases HBK.out with h2 | h2
            · exact .inl (.inr (.inl (h2.symm.trans h)))
            · right
              rw [h2] at h
              have:=Option.some.inj h
              have:=HFb.out.size
              omega
          · exact .inl (.inr (.inr h))
    · have q2:decide (pi<mp+(nq2:Int))=false:=by simpa using c2
      go_enter Tryz.func247,Tryz.ntmps247
      go_wp2_with (go_at_call 264; (with_reducible refine (HPI _ d4).mono ?_); rintro e w' ⟨rfl,rfl⟩)
      go_quiet (fail)
      obtain ⟨wa,hwa⟩:∃ wa,wa=w.drewN nq:=⟨_,rfl⟩
      have HHa:Hid (zAH tg G bs q mp nq2 p (.slice ao bs.length cb) pgs wa):=by show zAH tg _ _ _ _ _ _ _ _ _; rw [hwa]; exact HH.out.drewN nq
      have HFa:Hid (Fr (zAS q p (.slice ao bs.length cb) pgs) w wa):=by show Fr _ _ _; rw [hwa]; exact (Fr.refl _ w).drewN nq
      rw [← hwa]
      clear hwa HH d0 d1 d2 d3 d4 d5
      obtain ⟨d0,d1,d2,d3,d4,d5⟩:=HHa.out.core.fields.cells
      rw [HP.out] at d2
      go_wp2
      by_cases hcap:bs.length=cb
      · subst hcap
        go_quiet (fail)
        obtain ⟨wb,hwb⟩:∃ wb,wb=wa.drewN nq:=⟨_,rfl⟩
        have HHb:Hid (zAH tg G bs q mp nq2 p (.slice ao bs.length bs.length) pgs wb):=by show zAH tg _ _ _ _ _ _ _ _ _; rw [hwb]; exact HHa.out.drewN nq
        have HFb:Hid (Fr (zAS q p (.slice ao bs.length bs.length) pgs) w wb):=by show Fr _ _ _; rw [hwb]; exact HFa.out.drewN nq
        rw [← hwb]
        clear hwb HHa HFa d0 d1 d2 d3 d4 d5
        have hCP:=zEw G bs q mp nq2 p ao bs.length pgs wb HHb.out HI.out HFF.out (by omega)
        have HCP:=Lib.hid hCP
        clear hCP
        go_wp2_with (first | (go_at_call 266; (with_reducible refine HCP.out.mono ?_); rintro e9 wc ⟨rfl,tg9,l,G9,q9,mp9,n9,pgs9,hP9,hb9,hI9,hl9,hf9,hft9⟩; have d0:=hP9.core.fields.cells.1; have ho1:=hP9.core.buf; have HP9:=Lib.hid hP9; have HB9:=Lib.hid hb9; have HI9:=Lib.hid hI9; have HF9:=Lib.hid hf9; have HT9:=Lib.hid hft9; clear hP9 hb9 hI9 hf9 hft9 HCP) | (at_builtin; refine zAV wc (Value.int .i64 i) rfl _ _ 128 3 rfl (.int .i64 0) 8 Tryz.underlying128 Tryz.infoInt rfl rfl (.slice ao l.length bs.length) l.length (l.map (Value.int .i64)) rfl ho1 rfl (by omega) (by decide) ?_; intro ao1 cp1 w2 hown2 hgrow hblk; have hPS:=HP9.out.bufAfter hgrow; have e0:=hPS.1.cells.1; have e0f:=hPS.1.free 0; have HO2:=Lib.hid hown2; have HGR:=Lib.hid hgrow; have HBK:=Lib.hid hblk; have HPF:=Lib.hid hPS.2; clear hown2 hgrow hblk hPS ho1 d0))
        go_end0
        have hwb:=HFb.out.size
        refine ⟨tg9,G9,l++[i],q9,mp9,n9,_,pgs9,rfl,HP9.out.bufTo HO2.out HGR.out,by rw [zBV,HB9.out],HI9.out.snoc hi1 hi2,by rw [List.length_append]; exact Nat.succ_le_succ hl9,?_,fun k hk=>?_⟩
        · refine (((HFb.out.trans HF9.out (fun _ _ h=>h) (fun _ _ h=>h)).trans HPF.out (fun _ _ h=>h) (fun j hj h=>?_))).setCell (p:=⟨p,0,none⟩) (fun _=>.inl rfl) _
          rcases HT9.out j (.inr (.inl h)) with h2 | h2
          · exact h2
          · omega
        · have hsz9:=HF9.out.size
          have hold:∀ b,zAS q9 p (.slice ao l.length bs.length) pgs9 b→zAS q p (.slice ao bs.length bs.length) pgs b∨w.heap.size≤b:=fun b hb=>(HT9.out b hb).imp id (fun h=>by omega)
          rcases hk with h | h | h
          · exact .inl (.inl h)
          · rcases HBK.out with h2 | h2
            · exact hold k (.inr (.inl (h2.symm.trans h)))
            · right
              rw [h2] at h
              have:=Option.some.inj h
              omega
          · exact hold k (.inr (.inr h))
      · have hcp1:decide (((bs.length:Nat):Int)=((cb:Nat):Int))=false:=by simp; omega
        have hcp2:(((bs.length:Nat):Int) == ((cb:Nat):Int))=false:=by simp; omega
        have hcp3:¬ ((bs.length:Nat):Int)=((cb:Nat):Int):=by omega
        have hcp4:decide (bs.length=cb)=false:=by simpa using hcap
        have hcp5:(bs.length == cb)=false:=by simpa using hcap
        go_quiet (fail)
        obtain ⟨wb,hwb⟩:∃ wb,wb=wa.drewN nq:=⟨_,rfl⟩
        have HHb:Hid (zAH tg G bs q mp nq2 p (.slice ao bs.length cb) pgs wb):=by show zAH tg _ _ _ _ _ _ _ _ _; rw [hwb]; exact HHa.out.drewN nq
        have HFb:Hid (Fr (zAS q p (.slice ao bs.length cb) pgs) w wb):=by show Fr _ _ _; rw [hwb]; exact HFa.out.drewN nq
        rw [← hwb]
        clear hwb HHa HFa d0 d1 d2 d3 d4 d5
        obtain ⟨d0,d1,d2,d3,d4,d5⟩:=HHb.out.core.fields.cells
        have ho1:=HHb.out.core.buf
        go_wp2_with (at_builtin; refine zAV wb (Value.int .i64 i) rfl _ _ 128 3 rfl (.int .i64 0) 8 Tryz.underlying128 Tryz.infoInt rfl rfl (.slice ao bs.length cb) bs.length (bs.map (Value.int .i64)) rfl ho1 rfl (by omega) (by decide) ?_; intro ao1 cp1 w2 hown2 hgrow hblk; have hPS:=HHb.out.bufAfter hgrow; have e0:=hPS.1.cells.1; have e0f:=hPS.1.free 0; have HO2:=Lib.hid hown2; have HGR:=Lib.hid hgrow; have HBK:=Lib.hid hblk; have HPF:=Lib.hid hPS.2; clear hown2 hgrow hblk hPS ho1 d0 d1 d2 d3 d4 d5)
        go_end0
        refine ⟨tg,G,bs++[i],q,mp,nq2,_,pgs,rfl,HHb.out.bufTo HO2.out HGR.out,zBV G bs i,HI.out.snoc hi1 hi2,by rw [List.length_append]; exact Nat.le_refl _,?_,fun k hk=>?_⟩
        · exact (HFb.out.trans HPF.out (fun _ _ h=>h) (fun j _ h=>.inr (.inl h))).setCell (p:=⟨p,0,none⟩) (fun _=>.inl rfl) _
        · rcases hk with h | h | h
          · exact .inl (.inl h)
          · rcases HBK.out with h2 | h2
            · exact .inl (.inr (.inl (h2.symm.trans h)))
            · right
              rw [h2] at h
              have:=Option.some.inj h
              have:=HFb.out.size
              omega
          · exact .inl (.inr (.inr h))
  · have q1:decide (mp≤pi)=false:=by simpa using c1
    go_enter Tryz.func247,Tryz.ntmps247
    go_wp2_with (go_at_call 264; (with_reducible refine (HPI _ d4).mono ?_); rintro e w' ⟨rfl,rfl⟩)
    go_quiet (fail)
    obtain ⟨wa,hwa⟩:∃ wa,wa=w.drewN nq:=⟨_,rfl⟩
    have HHa:Hid (zAH tg G bs q mp nq2 p (.slice ao bs.length cb) pgs wa):=by show zAH tg _ _ _ _ _ _ _ _ _; rw [hwa]; exact HH.out.drewN nq
    have HFa:Hid (Fr (zAS q p (.slice ao bs.length cb) pgs) w wa):=by show Fr _ _ _; rw [hwa]; exact (Fr.refl _ w).drewN nq
    rw [← hwa]
    clear hwa HH d0 d1 d2 d3 d4 d5
    obtain ⟨d0,d1,d2,d3,d4,d5⟩:=HHa.out.core.fields.cells
    rw [HP.out] at d2
    go_wp2
    by_cases hcap:bs.length=cb
    · subst hcap
      go_quiet (fail)
      obtain ⟨wb,hwb⟩:∃ wb,wb=wa.drewN nq:=⟨_,rfl⟩
      have HHb:Hid (zAH tg G bs q mp nq2 p (.slice ao bs.length bs.length) pgs wb):=by show zAH tg _ _ _ _ _ _ _ _ _; rw [hwb]; exact HHa.out.drewN nq
      have HFb:Hid (Fr (zAS q p (.slice ao bs.length bs.length) pgs) w wb):=by show Fr _ _ _; rw [hwb]; exact HFa.out.drewN nq
      rw [← hwb]
      clear hwb HHa HFa d0 d1 d2 d3 d4 d5
      have hCP:=zEw G bs q mp nq2 p ao bs.length pgs wb HHb.out HI.out HFF.out (by omega)
      have HCP:=Lib.hid hCP
      clear hCP
      go_wp2_with (first | (go_at_call 266; (with_reducible refine HCP.out.mono ?_); rintro e9 wc ⟨rfl,tg9,l,G9,q9,mp9,n9,pgs9,hP9,hb9,hI9,hl9,hf9,hft9⟩; have d0:=hP9.core.fields.cells.1; have ho1:=hP9.core.buf; have HP9:=Lib.hid hP9; have HB9:=Lib.hid hb9; have HI9:=Lib.hid hI9; have HF9:=Lib.hid hf9; have HT9:=Lib.hid hft9; clear hP9 hb9 hI9 hf9 hft9 HCP) | (at_builtin; refine zAV wc (Value.int .i64 i) rfl _ _ 128 3 rfl (.int .i64 0) 8 Tryz.underlying128 Tryz.infoInt rfl rfl (.slice ao l.length bs.length) l.length (l.map (Value.int .i64)) rfl ho1 rfl (by omega) (by decide) ?_; intro ao1 cp1 w2 hown2 hgrow hblk; have hPS:=HP9.out.bufAfter hgrow; have e0:=hPS.1.cells.1; have e0f:=hPS.1.free 0; have HO2:=Lib.hid hown2; have HGR:=Lib.hid hgrow; have HBK:=Lib.hid hblk; have HPF:=Lib.hid hPS.2; clear hown2 hgrow hblk hPS ho1 d0))
      go_end0
      have hwb:=HFb.out.size
      refine ⟨tg9,G9,l++[i],q9,mp9,n9,_,pgs9,rfl,HP9.out.bufTo HO2.out HGR.out,by rw [zBV,HB9.out],HI9.out.snoc hi1 hi2,by rw [List.length_append]; exact Nat.succ_le_succ hl9,?_,fun k hk=>?_⟩
      · refine (((HFb.out.trans HF9.out (fun _ _ h=>h) (fun _ _ h=>h)).trans HPF.out (fun _ _ h=>h) (fun j hj h=>?_))).setCell (p:=⟨p,0,none⟩) (fun _=>.inl rfl) _
        rcases HT9.out j (.inr (.inl h)) with h2 | h2
        · exact h2
        · omega
      · have hsz9:=HF9.out.size
        have hold:∀ b,zAS q9 p (.slice ao l.length bs.length) pgs9 b→zAS q p (.slice ao bs.length bs.length) pgs b∨w.heap.size≤b:=fun b hb=>(HT9.out b hb).imp id (fun h=>by omega)
        rcases hk with h | h | h
        · exact .inl (.inl h)
        · rcases HBK.out with h2 | h2
          · exact hold k (.inr (.inl (h2.symm.trans h)))
          · right
            rw [h2] at h
            have:=Option.some.inj h
            omega
        · exact hold k (.inr (.inr h))
    · have hcp1:decide (((bs.length:Nat):Int)=((cb:Nat):Int))=false:=by simp; omega
      have hcp2:(((bs.length:Nat):Int) == ((cb:Nat):Int))=false:=by simp; omega
      have hcp3:¬ ((bs.length:Nat):Int)=((cb:Nat):Int):=by omega
      have hcp4:decide (bs.length=cb)=false:=by simpa using hcap
      have hcp5:(bs.length == cb)=false:=by simpa using hcap
      go_quiet (fail)
      obtain ⟨wb,hwb⟩:∃ wb,wb=wa.drewN nq:=⟨_,rfl⟩
      have HHb:Hid (zAH tg G bs q mp nq2 p (.slice ao bs.length cb) pgs wb):=by show zAH tg _ _ _ _ _ _ _ _ _; rw [hwb]; exact HHa.out.drewN nq
      have HFb:Hid (Fr (zAS q p (.slice ao bs.length cb) pgs) w wb):=by show Fr _ _ _; rw [hwb]; exact HFa.out.drewN nq
      rw [← hwb]
      clear hwb HHa HFa d0 d1 d2 d3 d4 d5
      obtain ⟨d0,d1,d2,d3,d4,d5⟩:=HHb.out.core.fields.cells
      have ho1:=HHb.out.core.buf
      go_wp2_with (at_builtin; refine zAV wb (Value.int .i64 i) rfl _ _ 128 3 rfl (.int .i64 0) 8 Tryz.underlying128 Tryz.infoInt rfl rfl (.slice ao bs.length cb) bs.length (bs.map (Value.int .i64)) rfl ho1 rfl (by omega) (by decide) ?_; intro ao1 cp1 w2 hown2 hgrow hblk; have hPS:=HHb.out.bufAfter hgrow; have e0:=hPS.1.cells.1; have e0f:=hPS.1.free 0; have HO2:=Lib.hid hown2; have HGR:=Lib.hid hgrow; have HBK:=Lib.hid hblk; have HPF:=Lib.hid hPS.2; clear hown2 hgrow hblk hPS ho1 d0 d1 d2 d3 d4 d5)
      go_end0
      refine ⟨tg,G,bs++[i],q,mp,nq2,_,pgs,rfl,HHb.out.bufTo HO2.out HGR.out,zBV G bs i,HI.out.snoc hi1 hi2,by rw [List.length_append]; exact Nat.le_refl _,?_,fun k hk=>?_⟩
      · exact (HFb.out.trans HPF.out (fun _ _ h=>h) (fun j _ h=>.inr (.inl h))).setCell (p:=⟨p,0,none⟩) (fun _=>.inl rfl) _
      · rcases hk with h | h | h
        · exact .inl (.inl h)
        · rcases HBK.out with h2 | h2
          · exact .inl (.inr (.inl (h2.symm.trans h)))
          · right
            rw [h2] at h
            have:=Option.some.inj h
            have:=HFb.out.size
            omega
        · exact .inl (.inr (.inr h))
theorem zHm (G:Int→Nat) (bs:List Int) (q:Int→Option (Nat × Nat)) (mp:Int) (n p:Nat) (bufv pgs:Value) (i:Int) (w:World) (h:zAH tg G bs q mp n p bufv pgs w) (hI:InI bs) (hF:∀ x,both G bs x<1000000000) (hlen:bs.length<1000000000) (hi1:-10000≤i) (hi2:i≤10000) :
    Calls Tryz.prog 247 #[.pointer (some ⟨p,0,none⟩),.int .i64 i] w fun e w'=>zOs (zAe (both G bs) i 1) bs.length q p bufv pgs w e w':=by
  have hG:G i<1000000000:=by
    have h1:=hF i
    have h2:both G bs i=G i+cntI bs i:=rfl
    omega
  cases hq:q (i / 32) with
  | some z=>obtain ⟨b,cp⟩:=z; exact (zTT G bs q mp n p bufv pgs i b cp w h hq (by omega)).mono fun e w' hx=>hx.gen hI hi1 hi2
  | none =>
    by_cases ht:((bs.length:Nat):Int)<tg
    · exact (zTS G bs q mp n p bufv pgs i w h hq ht hlen hi1 hi2).mono fun e w' hx=>hx.gen hI hi1 hi2
    · exact zTR G bs q mp n p bufv pgs i w h hq ht (by omega) hI hF hi1 hi2
set_option maxRecDepth 100000 in
set_option maxHeartbeats 400000 in
theorem zU4 (G:Int→Nat) (bs:List Int) (q:Int→Option (Nat × Nat)) (mp:Int) (n p:Nat) (bufv pgs:Value) (i:Int) (c:Nat) (w:World) (h:zAH tg G bs q mp n p bufv pgs w) (hc:0<c) (hs:G i+c<9007199254740992) (hI:InI bs) (hF:∀ x,both G bs x<1000000000) (hlen:bs.length<1000000000) (hi1:-10000≤i) (hi2:i≤10000) :
    Calls Tryz.prog 249 #[.pointer (some ⟨p,0,none⟩),.int .i64 i,.float .f64 (nf c)] w fun e w'=>zOs (zAe (both G bs) i c) bs.length q p bufv pgs w e w':=by
  by_cases h1:c=1
  · subst h1
    have HA:=zHm G bs q mp n p bufv pgs i w h hI hF hlen hi1 hi2
    have hz:=zES 1 (by omega) (by omega)
    have h1:(FloatKind.f64.format.order 4607182418800017408 4607182418800017408 == some .eq)=true:=by
      rw [← zCs,zBn 1 1 (by decide) (by decide)]; rfl
    rw [zCs] at hz ⊢
    clear h hs hI hF
    go_enter Tryz.func249,Tryz.ntmps249
    go_wp2_with (go_at_call 247; (with_reducible refine HA.mono ?_); intro e w1 hx; have HX:=Lib.hid hx; obtain ⟨_,_,_,_,_,_,_,_,rfl,-⟩:=hx; clear HA)
    go_end0
    exact HX.out
  · exact (zTQ G bs q mp n p bufv pgs i c w h (by omega) hs hi1 hi2).mono fun e w' hx=>hx.gen hI hi1 hi2
end Go.Proofs.YtllaekopaglolaaGreat
end
