/-
  The store with pages: a page is given,and made if it isn't there.
-/
import Derived.Test.YtllaekopaglolaaGreatHAT
import Derived.Deep.RegionLaw
import Derived.Deep.QuietTactic
import Derived.BigQuiet
import Derived.Test.YtllaekopaglolaaGreatHAN
section
namespace Go.Proofs.YtllaekopaglolaaGreat
open Go.RowKit
variable {tg:Int}
theorem zAS.more {q:Int→Option (Nat × Nat)} {p:Nat} {bufv pgs:Value} {k:Nat} (h:zAS q p (.slice none 0 0) pgs k):zAS q p bufv pgs k:=by
  rcases h with h | h | h | h
  · exact .inl h
  · simp [Value.ownBlock] at h
  · exact .inr (.inr (.inl h))
  · exact .inr (.inr (.inr h))
def zC3 (tg:Int) (G:Int→Nat) (bs:List Int) (q:Int→Option (Nat × Nat)) (p:Nat) (bufv pgs:Value) (pi:Int) (w:World) (e:Ending) (w':World):Prop :=
  ∃ q' mp' n' pgs' b cp,e = .returned (.slice (some ⟨b,0,none⟩) 32 cp)∧zAH tg G bs q' mp' n' p bufv pgs' w'∧q' pi=some (b,cp)∧Fr (zAS q p (.slice none 0 0) pgs) w w'∧(∀ k,zAS q' p bufv pgs' k→zAS q p bufv pgs k∨w.heap.size≤k)
theorem zAH.rowAt {G:Int→Nat} {bs:List Int} {q:Int→Option (Nat × Nat)} {mp:Int} {n p:Nat} {bufv pgs:Value} {w:World} (h:zAH tg G bs q mp n p bufv pgs w) (hn:0<n) :
    ∃ g cp,pgs = .slice (some ⟨g,0,none⟩) n cp∧n≤cp∧∀ j:Nat,j<n→w.cell? ⟨g,j,none⟩=some (pgV (q (mp+(j:Int)))):=by
  have hr:=h.core.row
  rcases id hr.2 with ⟨h1,h2⟩ | ⟨g,cp,cur,h1,_,_,h5,_⟩
  · omega
  · subst h1
    refine ⟨g,cp,rfl,h5,fun j hj=>?_⟩
    rw [World.ownsRow.cellAt hr j (by omega),zBm _ _ _ hj]
theorem zAH.newPage {G:Int→Nat} {bs:List Int} {q:Int→Option (Nat × Nat)} {mp:Int} {n p:Nat} {bufv:Value} {g c0:Nat} {W w1:World} {j:Nat} {pi:Int} {b cp:Nat}
   (h:zAH tg G bs q mp n p bufv (.slice (some ⟨g,0,none⟩) n c0) W) (hj:j<n) (hpi:pi=mp+(j:Int)) (hpr:-320≤pi∧pi≤320) (hq:q pi=none) (hrow:Row w1 b 32 cp (fun _=>0)) (hgr:W.grownBy w1 none) (hb:b=W.heap.size) :
    zAH tg G bs (upd q pi (some (b,cp))) mp n p bufv (.slice (some ⟨g,0,none⟩) n c0) (w1.setCell ⟨g,j,none⟩ (.slice (some ⟨b,0,none⟩) 32 cp)):=by
  have h1:=h.core.grown hgr
  have h2:=h1.setPage j (.slice (some ⟨b,0,none⟩) 32 cp)
  have hgW:g<W.heap.size:=by obtain ⟨_,hc⟩:=zAW h.core.row (k:=g) rfl; exact lt_of_block hc
  refine ⟨⟨h2.fields,h2.buf,?_,fun x b2 cp2 hx=>?_,fun x hx k k0 k1=>?_,fun x y b2 c1 c2 hx hy=>?_⟩,fun x b2 cp2 hx=>?_,h.bd⟩
  · have h3:=h2.row
    rw [zNq (b:=fun i=>pgV (upd q pi (some (b,cp)) (mp+(i:Int))))] at h3
    · exact h3
    · intro i hi
      unfold upd
      by_cases c:i=j
      · rw [if_pos c,if_pos (by rw [c,hpi])]; rfl
      · rw [if_neg c,if_neg (by omega)]
  · unfold upd at hx
    by_cases c:x=pi
    · rw [if_pos c] at hx
      cases hx
      refine (hrow.ext (fun k hk=>?_)).other (by show g≠_; omega) _
      rw [c]; exact (h.core.zero pi hq (k:Int) (by omega) (by omega)).symm
    · rw [if_neg c] at hx
      exact h2.page x b2 cp2 hx
  · unfold upd at hx
    by_cases c:x=pi
    · rw [if_pos c] at hx; cases hx
    · rw [if_neg c] at hx; exact h.core.zero x hx k k0 k1
  · have hold:∀ x b2 c2,q x=some (b2,c2)→b2≠b:=fun x b2 c2 hx=>by have:=(h.core.page x b2 c2 hx).lt; omega
    unfold upd at hx hy
    by_cases c:x=pi
    · by_cases c3:y=pi
      · rw [c,c3]
      · rw [if_pos c] at hx; rw [if_neg c3] at hy; cases hx; exact absurd rfl (hold y _ _ hy)
    · by_cases c3:y=pi
      · rw [if_neg c] at hx; rw [if_pos c3] at hy; cases hy; exact absurd rfl (hold x _ _ hx)
      · rw [if_neg c] at hx; rw [if_neg c3] at hy; exact h.core.inj x y b2 c1 c2 hx hy
  · unfold upd at hx
    by_cases c:x=pi
    · rw [c]; omega
    · rw [if_neg c] at hx; exact h.inside x b2 cp2 hx
theorem zAS.newPage {q:Int→Option (Nat × Nat)} {p:Nat} {bufv pgs:Value} {pi:Int} {b cp k:Nat} (h:zAS (upd q pi (some (b,cp))) p bufv pgs k):zAS q p bufv pgs k∨k=b:=by
  rcases h with h | h | h | ⟨x,c,h⟩
  · exact .inl (.inl h)
  · exact .inl (.inr (.inl h))
  · exact .inl (.inr (.inr (.inl h)))
  · unfold upd at h
    split at h
    · cases h; exact .inr rfl
    · exact .inl (.inr (.inr (.inr ⟨x,c,h⟩)))
set_option maxRecDepth 100000 in
set_option maxHeartbeats 400000 in
theorem zPB (G:Int→Nat) (bs:List Int) (q:Int→Option (Nat × Nat)) (mp:Int) (n p:Nat) (bufv pgs:Value) (pi:Int) (b cp:Nat) (w:World) (h:zAH tg G bs q mp n p bufv pgs w) (hq:q pi=some (b,cp)) :
    Calls Tryz.prog 263 #[.pointer (some ⟨p,0,none⟩),.int .i64 pi,.bool true] w fun e w'=>zC3 tg G bs q p bufv pgs pi w e w':=by
  obtain ⟨hi1,hi2,-⟩:=h.inside pi b cp hq
  have hn:0<n:=by omega
  have hbd:-330≤mp∧mp+(n:Int)≤330:=by rcases h.bd with ⟨h1,_,_⟩ | ⟨_,h2,h3⟩ <;> omega
  obtain ⟨g,c0,rfl,hgc,hcell⟩:=h.rowAt hn
  obtain ⟨j,hj⟩:∃ j:Nat,pi=mp+(j:Int):=⟨(pi - mp).toNat,by omega⟩
  subst hj
  have hjn:j<n:=by omega
  have hjn':(j:Int)<(n:Int):=by omega
  have hc:=hcell j hjn
  rw [hq] at hc
  replace hc:w.cell? ⟨g,j,none⟩=some (.slice (some ⟨b,0,none⟩) 32 cp):=hc
  obtain ⟨d0,d1,d2,d3,d4,d5⟩:=h.core.fields.cells
  have q1:decide (mp≤mp+(j:Int))=true:=by simp; omega
  have i1:IntKind.i64.wrap (mp+(n:Int))=mp+(n:Int):=by rw [IntKind.wrap_i64]; omega
  have i2:IntKind.i64.wrap (mp+(j:Int) - mp)=(j:Int):=by rw [IntKind.wrap_i64]; omega
  have q2:decide (mp+(j:Int)<mp+(n:Int))=true:=by simpa using hjn'
  have HH:=Lib.hid h
  have HQ:=Lib.hid hq
  clear h hq hcell hi1 hi2
  go_enter Tryz.func263,Tryz.ntmps263
  go_wp2
  go_quiet (fail)
  go_wp2
  revert nq
  intro n1
  go_quiet (fail)
  go_wp2
  go_ret
  exact ⟨q,mp,n,_,b,cp,rfl,HH.out.drewN (n1+nq),HQ.out,(Fr.refl _ w).drewN (n1+nq),fun k hk=>.inl hk⟩
set_option maxRecDepth 100000 in
set_option maxHeartbeats 400000 in
theorem zPA (G:Int→Nat) (bs:List Int) (q:Int→Option (Nat × Nat)) (mp:Int) (n p:Nat) (bufv pgs:Value) (pi:Int) (w:World) (h:zAH tg G bs q mp n p bufv pgs w) (hq:q pi=none) (hi1:mp≤pi) (hi2:pi<mp+n) (hp1:-320≤pi) (hp2:pi≤320) :
    Calls Tryz.prog 263 #[.pointer (some ⟨p,0,none⟩),.int .i64 pi,.bool true] w fun e w'=>zC3 tg G bs q p bufv pgs pi w e w':=by
  have hn:0<n:=by omega
  have hbd:-330≤mp∧mp+(n:Int)≤330:=by rcases h.bd with ⟨h1,_,_⟩ | ⟨_,h2,h3⟩ <;> omega
  obtain ⟨g,c0,rfl,hgc,hcell⟩:=h.rowAt hn
  obtain ⟨j,hj⟩:∃ j:Nat,pi=mp+(j:Int):=⟨(pi - mp).toNat,by omega⟩
  have hjn:j<n:=by omega
  have hc:=hcell j hjn
  rw [← hj,hq] at hc
  replace hc:w.cell? ⟨g,j,none⟩=some (.slice none 0 0):=hc
  have HQ:=Lib.hid hq
  have HPI:=Lib.hid (And.intro hp1 hp2)
  subst hj
  have hjn':(j:Int)<(n:Int):=by omega
  obtain ⟨d0,d1,d2,d3,d4,d5⟩:=h.core.fields.cells
  have q1:decide (mp≤mp+(j:Int))=true:=by simp; omega
  have i1:IntKind.i64.wrap (mp+(n:Int))=mp+(n:Int):=by rw [IntKind.wrap_i64]; omega
  have i2:IntKind.i64.wrap (mp+(j:Int) - mp)=(j:Int):=by rw [IntKind.wrap_i64]; omega
  have q2:decide (mp+(j:Int)<mp+(n:Int))=true:=by simpa using hjn'
  have HH:=Lib.hid h
  clear h hq hcell hi1 hi2
  go_enter Tryz.func263,Tryz.ntmps263
  go_wp2
  go_quiet (fail)
  go_wp2
  revert nq
  intro n1
  go_quiet (fail)
  obtain ⟨W,hW⟩:∃ W,W=(w.drewN n1).drewN nq:=⟨_,rfl⟩
  have hhW:zAH tg G bs q mp n p bufv (.slice (some ⟨g,0,none⟩) n c0) W:=by rw [hW]; exact (HH.out.drewN n1).drewN nq
  have hcW:W.cell? ⟨g,j,none⟩=some (.slice none 0 0):=by rw [hW]; exact hc
  have HFW:Hid (Fr (zAS q p (.slice none 0 0) (.slice (some ⟨g,0,none⟩) n c0)) w W):=by show Fr _ _ _; rw [hW]; exact ((Fr.refl _ w).drewN n1).drewN nq
  have HSZ:Hid (W.heap.size=w.heap.size):=by show _=_; rw [hW]; rfl
  rw [← hW]
  have HHW:=Lib.hid hhW
  clear hW hc d0 d1 d2 d3 d4 d5 HH hhW
  go_wp2_with (at_builtin; refine zBU W rfl _ _ 23 3 rfl Tryz.underlying23 Tryz.underlying3 Tryz.infoF64 (.slice none 0 0) 0 32 (fun _=>0) rfl rfl (.inl ⟨rfl,rfl⟩) (by decide) (by decide) (by decide) ?_; intro v' w1 hgr; obtain ⟨b,cp,rfl,hrow,hgrow,hg⟩:=hgr; have hb:b=W.heap.size:=hg.elim (fun h=>by simp [Value.ownBlock] at h) id; have hp1:=HHW.out.grown hgrow; have hc1:w1.cell? ⟨g,j,none⟩=some (.slice none 0 0):=(by obtain ⟨g2,c2,e,_,hcc⟩:=hp1.rowAt hn; cases e; have:=hcc j hjn; rw [HQ.out] at this; exact this); have hf1:=World.ownsRow.frozenAt hp1.core.row j; have HRW:=Lib.hid hrow; have HGR:=Lib.hid hgrow; have HB:=Lib.hid hb; clear hrow hgrow hg hb hp1 hcW)
  go_ret
  have hnew:=HHW.out.newPage hjn rfl HPI.out HQ.out HRW.out HGR.out HB.out
  refine ⟨_,mp,n,_,b,cp,rfl,hnew,by unfold upd; rw [if_pos rfl],?_,fun k hk=>?_⟩
  · refine (HFW.out.trans (T:=fun _=>False) ⟨HGR.out.os,HGR.out.tape,HGR.out.output,HGR.out.size,fun k hk _=>HGR.out.block k hk (by simp [Value.ownBlock])⟩ (fun _ _ h=>h) (fun _ _ h=>h.elim)).setCell (p:=⟨g,j,none⟩) (fun _=>.inr (.inr (.inl rfl))) _
  · rcases hk.newPage with h | h
    · exact .inl h
    · right; rw [h,HB.out,HSZ.out]; exact Nat.le_refl _
end Go.Proofs.YtllaekopaglolaaGreat
end
/-
  The store with pages: a page is given where the row of pages is made longer. (Printed by gen_page3.py.)
-/
section
namespace Go.Proofs.YtllaekopaglolaaGreat
open Go.RowKit
variable {tg:Int}
theorem zAH.rowIs {G:Int→Nat} {bs:List Int} {q:Int→Option (Nat × Nat)} {mp:Int} {n p:Nat} {bufv:Value} {g c0:Nat} {w:World} (h:zAH tg G bs q mp n p bufv (.slice (some ⟨g,0,none⟩) n c0) w) (hn:0<n) :
    n≤c0∧∀ j:Nat,j<n→w.cell? ⟨g,j,none⟩=some (pgV (q (mp+(j:Int)))):=by
  obtain ⟨g2,c2,e,h1,h2⟩:=h.rowAt hn
  cases e
  exact ⟨h1,h2⟩
set_option maxRecDepth 100000 in
set_option maxHeartbeats 400000 in
theorem zR2 (G:Int→Nat) (bs:List Int) (q:Int→Option (Nat × Nat)) (p:Nat) (bufv:Value) (pi:Int) (w:World) (h:zAH tg G bs q 9223372036854775807 0 p bufv (.slice none 0 0) w) (hp1:-320≤pi) (hp2:pi≤320) :
    Calls Tryz.prog 263 #[.pointer (some ⟨p,0,none⟩),.int .i64 pi,.bool true] w fun e w'=>zC3 tg G bs q p bufv (.slice none 0 0) pi w e w':=by
  obtain ⟨pgs,hpgs⟩:∃ v,v=Value.slice none 0 0:=⟨_,rfl⟩
  rw [← hpgs] at h
  obtain ⟨d0,d1,d2,d3,d4,d5⟩:=h.core.fields.cells
  have f2:=h.core.fields.free 2
  rw [hpgs] at d2
  have q1:decide (9223372036854775807≤pi)=false:=by simp; omega
  have H4:=fun w=>zCt (.pointer (some ⟨p,0,none⟩)) 1 (by decide) w
  rw [show (((1+7) / 8*8:Nat):Int)=8 from rfl,show ((1:Nat):Int)=1 from rfl] at H4
  have hnone:∀ x,q x=none:=fun x=>by
    cases hx:q x with
    | none=>rfl
    | some z=>obtain ⟨b,cp⟩:=z; have:=h.inside x b cp hx; omega
  have HQ:=Lib.hid (hnone pi)
  have HNONE:=Lib.hid hnone
  have HPI:=Lib.hid (And.intro hp1 hp2)
  have HP:=Lib.hid hpgs
  have HH:=Lib.hid h
  have hlt9:pi<9223372036854775807:=by omega
  clear h hnone hpgs
  go_enter Tryz.func263,Tryz.ntmps263
  go_wp2
  go_quiet (fail)
  obtain ⟨w0,hw0⟩:∃ w0,w0=w.drewN nq:=⟨_,rfl⟩
  have HH0:Hid (zAH tg G bs q 9223372036854775807 0 p bufv pgs w0):=by show zAH tg _ _ _ _ _ _ _ _ _; rw [hw0]; exact HH.out.drewN nq
  have HF0:Hid (Fr (zAS q p (.slice none 0 0) (Value.slice none 0 0)) w w0):=by show Fr _ _ _; rw [hw0]; exact (Fr.refl _ w).drewN nq
  rw [← hw0]
  clear hw0 HH d0 d1 d2 d3 d4 d5
  obtain ⟨d0,d1,d2,d3,d4,d5⟩:=HH0.out.core.fields.cells
  rw [HP.out] at d2
  have f2:=HH0.out.core.fields.free 2
  have f3:=HH0.out.core.fields.free 3
  go_wp2
  go_region_law (first | (go_simp; go_at_call 272; (with_reducible refine (H4 _).mono ?_); rintro e w' ⟨rfl,rfl⟩) | (rw [if_pos (by rfl)]; refine zF5 w0.drew _ _ 129 3 23 (.slice none 0 0) 24 rfl Tryz.underlying129 Tryz.underlying3 Tryz.infoSF (by decide) rfl rfl (.slice none 0 0) 0 8 [] rfl rfl (World.ownsRow_nil _ _ _ _) (by decide) (by decide) (by decide) ?_; intro v' w1 hgr; have hgr2:=hgr; obtain ⟨g,c0,rfl,-⟩:=hgr2; have HGZ:=Lib.hid hgr; have hPS:=HH0.out.core.drew.after (by rw [HP.out]; exact hgr); have e2:=hPS.cells.2.2.1; have e2f:=hPS.free 2; have e3:=hPS.cells.2.2.2.1; have e3f:=hPS.free 3; clear hgr hPS d0 d1 d2 d3 d4 d5 f2 f3))
  all_goals
    go_wp2
    have hlong:=(HH0.out.core.drew.longer (k:=8) (by rw [HP.out]; exact HGZ.out)).setMp (pi - 4)
    have hfr:=HGZ.out.fr
    obtain ⟨V,hV⟩:∃ V,V=(w1.setCell ⟨p,2,none⟩ (.slice (some ⟨g,0,none⟩) 8 c0)).setCell ⟨p,3,none⟩ (.int .i64 (pi - 4)):=⟨_,rfl⟩
    obtain ⟨m,hm⟩:∃ m,m=pi - 4:=⟨_,rfl⟩
    have HV:Hid (zAH tg G bs q m 8 p bufv (.slice (some ⟨g,0,none⟩) 8 c0) V):=by
      show zAH tg _ _ _ _ _ _ _ _ _
      rw [hV,hm]
      exact ⟨hlong.ext (fun j _=>by rw [if_neg (Nat.not_lt_zero _),HNONE.out]; rfl),(fun x b cp hx=>by rw [HNONE.out] at hx; cases hx),.inr ⟨by decide,by omega,by omega⟩⟩
    have HFV:Hid (Fr (zAS q p (.slice none 0 0) (Value.slice none 0 0)) w V):=by
      show Fr _ _ _
      rw [hV]
      exact (((HF0.out.drew.trans hfr.1 (fun _ _ h=>h) (fun _ _ h=>by simp [Value.ownBlock] at h)).setCell (p:=⟨p,2,none⟩) (fun _=>.inl rfl) _).setCell (p:=⟨p,3,none⟩) (fun _=>.inl rfl) _)
    have HOW:Hid (∀ g',(Value.slice (some ⟨g,0,none⟩) 8 c0).ownBlock=some g'→g'<w.heap.size→zAS q p (.slice none 0 0) (Value.slice none 0 0) g'):=fun g' h1 h2=>by
      have h3:=hfr.2 g' h1
      have h4:=HF0.out.size
      rcases h3 with h3 | h3
      · simp [Value.ownBlock] at h3
      · rw [h3] at h2
        have:w0.drew.heap.size=w0.heap.size:=rfl
        omega
    rw [← hV]
    clear hV hlong hfr e2 e2f e3 e3f HH0 HF0 HGZ
    obtain ⟨j,hj⟩:∃ j:Nat,pi=m+(j:Int):=⟨(pi - m).toNat,by omega⟩
    have hjn:j<8:=by omega
    have hjn':(j:Int)<((8:Nat):Int):=by omega
    obtain ⟨hgc,hcell⟩:=HV.out.rowIs (by omega)
    have hc:=hcell j hjn
    rw [← hj,HQ.out] at hc
    replace hc:V.cell? ⟨g,j,none⟩=some (.slice none 0 0):=hc
    obtain ⟨d0,d1,d2,d3,d4,d5⟩:=HV.out.core.fields.cells
    have i2:IntKind.i64.wrap (pi - m)=(j:Int):=by rw [IntKind.wrap_i64]; omega
    have HJ:=Lib.hid hj
    clear hcell hj
    clear hm
    go_wp2
    go_quiet (fail)
    obtain ⟨W,hW⟩:∃ W,W=V.drewN nq:=⟨_,rfl⟩
    have hhW:zAH tg G bs q (m) (8) p bufv (.slice (some ⟨g,0,none⟩) (8) c0) W:=by rw [hW]; exact HV.out.drewN nq
    have hcW:W.cell? ⟨g,j,none⟩=some (.slice none 0 0):=by rw [hW]; exact hc
    have HFW:Hid (Fr (zAS q p (.slice none 0 0) (Value.slice none 0 0)) w W):=by show Fr _ _ _; rw [hW]; exact HFV.out.drewN nq
    have HSZ:Hid (W.heap.size=V.heap.size):=by show _=_; rw [hW]; rfl
    rw [← hW]
    have HHW:=Lib.hid hhW
    clear hW hc d0 d1 d2 d3 d4 d5 HV hhW
    go_wp2_with (at_builtin; refine zBU W rfl _ _ 23 3 rfl Tryz.underlying23 Tryz.underlying3 Tryz.infoF64 (.slice none 0 0) 0 32 (fun _=>0) rfl rfl (.inl ⟨rfl,rfl⟩) (by decide) (by decide) (by decide) ?_; intro v' w1 hgr; obtain ⟨b,cp,rfl,hrow,hgrow,hg⟩:=hgr; have hb:b=W.heap.size:=hg.elim (fun h=>by simp [Value.ownBlock] at h) id; have hp1:=HHW.out.grown hgrow; have hc1:w1.cell? ⟨g,j,none⟩=some (.slice none 0 0):=(by have:=(hp1.rowIs (by omega)).2 j hjn; rw [← HJ.out,HQ.out] at this; exact this); have hf1:=World.ownsRow.frozenAt hp1.core.row j; have HRW:=Lib.hid hrow; have HGR:=Lib.hid hgrow; have HB:=Lib.hid hb; clear hrow hgrow hg hb hp1 hcW)
    go_ret
    have hnew:=HHW.out.newPage hjn HJ.out HPI.out HQ.out HRW.out HGR.out HB.out
    refine ⟨_,m,8,_,b,cp,rfl,hnew,by unfold upd; rw [if_pos rfl],?_,fun k hk=>?_⟩
    · exact (HFW.out.trans (T:=fun _=>False) ⟨HGR.out.os,HGR.out.tape,HGR.out.output,HGR.out.size,fun k hk _=>HGR.out.block k hk (by simp [Value.ownBlock])⟩ (fun _ _ h=>h) (fun _ _ h=>h.elim)).setCell (p:=⟨g,j,none⟩) (fun hlt=>HOW.out g rfl hlt) _
    · rcases hk.newPage with h | h
      · rcases h with h | h | h | h
        · exact .inl (.inl h)
        · exact .inl (.inr (.inl h))
        · cases h
          by_cases hlt:g<w.heap.size
          · exact .inl (HOW.out g rfl hlt).more
          · exact .inr (Nat.not_lt.1 hlt)
        · exact .inl (.inr (.inr (.inr h)))
      · right; rw [h,HB.out,HSZ.out]; exact HFV.out.size
end Go.Proofs.YtllaekopaglolaaGreat
end
