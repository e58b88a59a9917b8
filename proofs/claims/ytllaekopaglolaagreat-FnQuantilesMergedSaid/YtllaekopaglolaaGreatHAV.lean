/-
  The store with pages: a page is given where the row of pages is made longer. (Printed by gen_page3.py.)
-/
import Derived.Test.YtllaekopaglolaaGreatHAU
section
namespace Go.Proofs.YtllaekopaglolaaGreat
open Go.RowKit
variable {tg:Int}
set_option maxRecDepth 100000 in
set_option maxHeartbeats 16000000 in
theorem zR0 (G:Int→Nat) (bs:List Int) (q:Int→Option (Nat × Nat)) (mp:Int) (n p:Nat) (bufv pgs:Value) (pi:Int) (w:World) (h:zAH tg G bs q mp n p bufv pgs w) (hn:0<n) (hi:mp+n≤pi) (hp1:-320≤pi) (hp2:pi≤320) :
    Calls Tryz.prog 263 #[.pointer (some ⟨p,0,none⟩),.int .i64 pi,.bool true] w fun e w'=>zC3 tg G bs q p bufv pgs pi w e w':=by
  have hbd:-330≤mp∧mp+(n:Int)≤330:=by rcases h.bd with ⟨h1,_,_⟩ | ⟨_,h2,h3⟩ <;> omega
  obtain ⟨g0,c00,hpgs,-,-⟩:=h.rowAt hn
  obtain ⟨d0,d1,d2,d3,d4,d5⟩:=h.core.fields.cells
  rw [hpgs] at d2
  have q1:decide (mp≤pi)=true:=by simp; omega
  have i1:IntKind.i64.wrap (mp+(n:Int))=mp+(n:Int):=by rw [IntKind.wrap_i64]; omega
  have q2:decide (pi<mp+(n:Int))=false:=by simp; omega
  obtain ⟨r,hr⟩:∃ r:Nat,(r:Int)=pi - mp+1:=⟨(pi - mp+1).toNat,by omega⟩
  have H4:=fun w=>zCt (.pointer (some ⟨p,0,none⟩)) r (by omega) w
  obtain ⟨k,hk⟩:∃ k:Nat,(r+7) / 8*8=n+k:=⟨(r+7) / 8*8 - n,by omega⟩
  rw [hr,hk,show ((n+k:Nat):Int)=(n:Int)+(k:Int) from by omega] at H4
  have i3:IntKind.i64.wrap (pi - mp)=pi - mp:=by rw [IntKind.wrap_i64]; omega
  have i4:IntKind.i64.wrap (pi - mp+1)=pi - mp+1:=by rw [IntKind.wrap_i64]; omega
  have i5:IntKind.i64.wrap ((n:Int)+(k:Int) - (n:Int))=(k:Int):=by rw [IntKind.wrap_i64]; omega
  have i6:IntKind.i64.wrap (k:Int)=(k:Int):=by rw [IntKind.wrap_i64]; omega
  have hk0:0<k:=by omega
  have hkm:k<10000:=by omega
  have hnm:n<10000:=by omega
  have hend:mp+((n+k:Nat):Int)≤330:=by omega
  have hin:pi<mp+((n+k:Nat):Int):=by omega
  have hnlt:¬ pi<mp:=by omega
  have hnone:∀ x,mp+(n:Int)≤x→q x=none:=fun x hx=>by
    cases hx2:q x with
    | none=>rfl
    | some z=>obtain ⟨b,cp⟩:=z; have:=h.inside x b cp hx2; omega
  have HQ:=Lib.hid (hnone pi hi)
  have HNONE:=Lib.hid hnone
  have HPI:=Lib.hid (And.intro hp1 hp2)
  have HP:=Lib.hid hpgs
  have HH:=Lib.hid h
  have HR:=Lib.hid hr
  have HK:=Lib.hid hk
  have HI:=Lib.hid hi
  clear h hnone hpgs hr hk hi
  go_enter Tryz.func263,Tryz.ntmps263
  go_wp2
  go_quiet (fail)
  obtain ⟨w0,hw0⟩:∃ w0,w0=w.drewN nq:=⟨_,rfl⟩
  have HH0:Hid (zAH tg G bs q mp n p bufv pgs w0):=by show zAH tg _ _ _ _ _ _ _ _ _; rw [hw0]; exact HH.out.drewN nq
  have HF0:Hid (Fr (zAS q p (.slice none 0 0) pgs) w w0):=by show Fr _ _ _; rw [hw0]; exact (Fr.refl _ w).drewN nq
  rw [← hw0]
  clear hw0 HH d0 d1 d2 d3 d4 d5
  obtain ⟨d0,d1,d2,d3,d4,d5⟩:=HH0.out.core.fields.cells
  rw [HP.out] at d2
  have f2:=HH0.out.core.fields.free 2
  clear q1 q2 i1
  go_wp2
  go_region_law (first | (go_simp; go_at_call 272; (with_reducible refine (H4 _).mono ?_); rintro e w' ⟨rfl,rfl⟩) | (rw [if_pos (by rfl)]; refine zF5 w0.drew _ _ 129 3 23 (.slice none 0 0) 24 rfl Tryz.underlying129 Tryz.underlying3 Tryz.infoSF (by decide) rfl rfl (.slice (some ⟨g0,0,none⟩) n c00) n k (rowV (fun j=>pgV (q (mp+(j:Int)))) n) rfl rfl (by rw [← HP.out]; exact HH0.out.core.drew.row) hk0 (by omega) (by omega) ?_; intro v' w1 hgr; have hgr2:=hgr; obtain ⟨g,c0,rfl,-⟩:=hgr2; have HGZ:=Lib.hid hgr; have hPS:=HH0.out.core.drew.after (by rw [HP.out]; exact hgr); have e2:=hPS.cells.2.2.1; have e2f:=hPS.free 2; have e3:=hPS.cells.2.2.2.1; clear hgr hPS d0 d1 d2 d3 d4 d5 f2))
  all_goals
    go_wp2
    have hlong:=HH0.out.core.drew.longer (k:=k) (by rw [HP.out]; exact HGZ.out)
    have hfr:=HGZ.out.fr
    obtain ⟨V,hV⟩:∃ V,V=w1.setCell ⟨p,2,none⟩ (.slice (some ⟨g,0,none⟩) (n+k) c0):=⟨_,rfl⟩
    have HV:Hid (zAH tg G bs q mp (n+k) p bufv (.slice (some ⟨g,0,none⟩) (n+k) c0) V):=by
      show zAH tg _ _ _ _ _ _ _ _ _
      rw [hV]
      refine ⟨hlong.ext (fun j hj=>?_),(fun x b cp hx=>by have:=HH0.out.inside x b cp hx; omega),.inr ⟨by omega,hbd.1,hend⟩⟩
      by_cases c:j<n
      · rw [if_pos c]
      · rw [if_neg c,HNONE.out _ (by omega)]; rfl
    have HFV:Hid (Fr (zAS q p (.slice none 0 0) pgs) w V):=by
      show Fr _ _ _
      rw [hV]
      exact (HF0.out.drew.trans hfr.1 (fun _ _ h=>h) (fun j _ h=>.inr (.inr (.inl (by rw [HP.out]; exact h))))).setCell (p:=⟨p,2,none⟩) (fun _=>.inl rfl) _
    have HOW:Hid (∀ g',(Value.slice (some ⟨g,0,none⟩) (n+k) c0).ownBlock=some g'→g'<w.heap.size→zAS q p (.slice none 0 0) pgs g'):=fun g' h1 h2=>by
      have h3:=hfr.2 g' h1
      have h4:=HF0.out.size
      rcases h3 with h3 | h3
      · exact .inr (.inr (.inl (by rw [HP.out]; exact h3)))
      · rw [h3] at h2
        have:w0.drew.heap.size=w0.heap.size:=rfl
        omega
    rw [← hV]
    have hi:=HI.out
    clear hV hlong hfr e2 e2f e3 HH0 HF0 HGZ i3 i4 i5 i6
    obtain ⟨j,hj⟩:∃ j:Nat,pi=mp+(j:Int):=⟨(pi - mp).toNat,by omega⟩
    have hjn:j<(n+k):=by omega
    have hjn':(j:Int)<(((n+k):Nat):Int):=by omega
    obtain ⟨hgc,hcell⟩:=HV.out.rowIs (by omega)
    have hc:=hcell j hjn
    rw [← hj,HQ.out] at hc
    replace hc:V.cell? ⟨g,j,none⟩=some (.slice none 0 0):=hc
    obtain ⟨d0,d1,d2,d3,d4,d5⟩:=HV.out.core.fields.cells
    have i2:IntKind.i64.wrap (pi - mp)=(j:Int):=by rw [IntKind.wrap_i64]; omega
    have HJ:=Lib.hid hj
    clear hcell hj
    clear hi
    go_wp2
    go_quiet (fail)
    obtain ⟨W,hW⟩:∃ W,W=V.drewN nq:=⟨_,rfl⟩
    have hhW:zAH tg G bs q (mp) ((n+k)) p bufv (.slice (some ⟨g,0,none⟩) ((n+k)) c0) W:=by rw [hW]; exact HV.out.drewN nq
    have hcW:W.cell? ⟨g,j,none⟩=some (.slice none 0 0):=by rw [hW]; exact hc
    have HFW:Hid (Fr (zAS q p (.slice none 0 0) pgs) w W):=by show Fr _ _ _; rw [hW]; exact HFV.out.drewN nq
    have HSZ:Hid (W.heap.size=V.heap.size):=by show _=_; rw [hW]; rfl
    rw [← hW]
    have HHW:=Lib.hid hhW
    clear hW hc d0 d1 d2 d3 d4 d5 HV hhW
    go_wp2_with (at_builtin; refine zBU W rfl _ _ 23 3 rfl Tryz.underlying23 Tryz.underlying3 Tryz.infoF64 (.slice none 0 0) 0 32 (fun _=>0) rfl rfl (.inl ⟨rfl,rfl⟩) (by decide) (by decide) (by decide) ?_; intro v' w1 hgr; obtain ⟨b,cp,rfl,hrow,hgrow,hg⟩:=hgr; have hb:b=W.heap.size:=hg.elim (fun h=>by simp [Value.ownBlock] at h) id; have hp1:=HHW.out.grown hgrow; have hc1:w1.cell? ⟨g,j,none⟩=some (.slice none 0 0):=(by have:=(hp1.rowIs (by omega)).2 j hjn; rw [← HJ.out,HQ.out] at this; exact this); have hf1:=World.ownsRow.frozenAt hp1.core.row j; have HRW:=Lib.hid hrow; have HGR:=Lib.hid hgrow; have HB:=Lib.hid hb; clear hrow hgrow hg hb hp1 hcW)
    go_ret
    have hnew:=HHW.out.newPage hjn HJ.out HPI.out HQ.out HRW.out HGR.out HB.out
    refine ⟨_,mp,(n+k),_,b,cp,rfl,hnew,by unfold upd; rw [if_pos rfl],?_,fun k hk=>?_⟩
    · exact (HFW.out.trans (T:=fun _=>False) ⟨HGR.out.os,HGR.out.tape,HGR.out.output,HGR.out.size,fun k hk _=>HGR.out.block k hk (by simp [Value.ownBlock])⟩ (fun _ _ h=>h) (fun _ _ h=>h.elim)).setCell (p:=⟨g,j,none⟩) (fun hlt=>HOW.out g rfl hlt) _
    · rcases hk.newPage with h | h
      · rcases h with h | h | h | h
        · exact .inl (.inl h)
        · exact .inl (.inr (.inl h))
        · cases h
          by_cases hlt:g<w.heap.size
          · exact .inl (HOW.out g rfl hlt).more
          · exact .inr (Nat.not_lt.1 hlt)
        · exact .inl (.inr (.inr (.inr h)))
      · right; rw [h,HB.out,HSZ.out]; exact HFV.out.size
end Go.Proofs.YtllaekopaglolaaGreat
end
