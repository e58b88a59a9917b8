/-
  The store with pages: a page looked for,not made; lists cut in the middle.
-/
import Derived.Test.YtllaekopaglolaaGreatHAX
section
namespace Go.Proofs.YtllaekopaglolaaGreat
open Go.RowKit
variable {tg:Int}
theorem Tryz.sizeInt (w:World):(sizeOf 3).run Tryz.prog w = .ok 1 w:=by kernel_rfl
theorem zJX (ao:Option Addr) (n m c:Nat):(Value.slice ao n c).ownBlock=(Value.slice ao m c).ownBlock:=by
  cases ao with
  | none=>rfl
  | some a=>rfl
theorem zAS.len {q:Int→Option (Nat × Nat)} {p:Nat} {ao:Option Addr} {n c:Nat} {pgs:Value} {k:Nat} (m:Nat) (h:zAS q p (.slice ao n c) pgs k):zAS q p (.slice ao m c) pgs k:=by
  rcases h with h | h | h | h
  · exact .inl h
  · exact .inr (.inl (by rw [zJX ao m n c]; exact h))
  · exact .inr (.inr (.inl h))
  · exact .inr (.inr (.inr h))
theorem zNT:∀ (bs:List Int) (x:Int),cntI bs x≤bs.length
  | [],_=>Nat.le_refl _
  | b :: t,x=>by
    rw [zCH]
    have:=zNT t x
    unfold zAe
    split <;> simp <;> omega
set_option maxRecDepth 100000 in
set_option maxHeartbeats 400000 in
theorem zRz (G:Int→Nat) (bs:List Int) (q:Int→Option (Nat × Nat)) (mp:Int) (n p:Nat) (bufv pgs:Value) (pi:Int) (w:World) (h:zAH tg G bs q mp n p bufv pgs w) (hp1:-320≤pi) (hp2:pi≤320) :
    Calls Tryz.prog 263 #[.pointer (some ⟨p,0,none⟩),.int .i64 pi,.bool false] w fun e w'=>e = .returned (pgV (q pi))∧∃ t,w'=w.drewN t:=by
  obtain ⟨aq,n2,cq,hpgs⟩:=zAR h.core.row
  have hnq:n2=n:=by have h2:=h.core.row; rw [hpgs] at h2; exact zAo h2
  subst hnq
  subst hpgs
  obtain ⟨d0,d1,d2,d3,d4,d5⟩:=h.core.fields.cells
  have hout:(pi<mp∨mp+(n2:Int)≤pi)→q pi=none:=fun hh=>by
    cases e:q pi with
    | none=>rfl
    | some z=>obtain ⟨b,cp⟩:=z; have:=h.inside pi b cp e; omega
  by_cases c1:mp≤pi
  · have hbd:0<n2 ∧ -330≤mp∧mp+(n2:Int)≤330:=by rcases h.bd with ⟨_,h2,_⟩ | h2; omega; exact h2
    have q1:decide (mp≤pi)=true:=by simpa using c1
    have i1:IntKind.i64.wrap (mp+(n2:Int))=mp+(n2:Int):=by rw [IntKind.wrap_i64]; omega
    by_cases c2:pi<mp+(n2:Int)
    · have q2:decide (pi<mp+(n2:Int))=true:=by simpa using c2
      obtain ⟨g,c0,hg2,hgc,hcell⟩:=h.rowAt hbd.1
      cases hg2
      obtain ⟨j,hj⟩:∃ j:Nat,pi - mp=(j:Int):=⟨(pi - mp).toNat,by omega⟩
      have i2:IntKind.i64.wrap (pi - mp)=(j:Int):=by rw [IntKind.wrap_i64]; omega
      have hjn:j<n2:=by omega
      have hjn':(j:Int)<(n2:Int):=by omega
      have hc:=hcell j hjn
      rw [show mp+(j:Int)=pi from by omega] at hc
      obtain ⟨pv,hpv⟩:∃ pv,pv=pgV (q pi):=⟨_,rfl⟩
      rw [← hpv] at hc ⊢
      clear h hcell hj hout hpv
      go_enter Tryz.func263,Tryz.ntmps263
      go_wp2
      go_quiet (fail)
      go_wp2
      revert nq
      intro n1
      try go_quiet (fail)
      go_wp2
      go_ret
      exact ⟨rfl,_,rfl⟩
    · have q2:decide (pi<mp+(n2:Int))=false:=by simpa using c2
      rw [hout (.inr (by omega))]
      clear h hout
      go_enter Tryz.func263,Tryz.ntmps263
      go_wp2
      go_quiet (fail)
      go_wp2
      go_ret
      exact ⟨rfl,_,rfl⟩
  · have q1:decide (mp≤pi)=false:=by simpa using c1
    rw [hout (.inl (by omega))]
    clear h hout
    go_enter Tryz.func263,Tryz.ntmps263
    go_wp2
    go_quiet (fail)
    go_wp2
    go_ret
    exact ⟨rfl,_,rfl⟩
theorem zJW (G:Int→Nat) (bs:List Int) (q:Int→Option (Nat × Nat)) (mp:Int) (n p:Nat) (bufv pgs:Value) (pi:Int) (ens:Bool) (w:World) (h:zAH tg G bs q mp n p bufv pgs w) (hp1:-320≤pi) (hp2:pi≤320) :
    (Calls Tryz.prog 263 #[.pointer (some ⟨p,0,none⟩),.int .i64 pi,.bool ens] w fun e w'=>zC3 tg G bs q p bufv pgs pi w e w') ∨
    (Calls Tryz.prog 263 #[.pointer (some ⟨p,0,none⟩),.int .i64 pi,.bool ens] w fun e w'=>e = .returned (.slice none 0 0)∧∃ t,w'=w.drewN t):=by
  cases ens with
  | true=>exact .inl (zIi G bs q mp n p bufv pgs pi w h hp1 hp2)
  | false =>
    have hF:=zRz G bs q mp n p bufv pgs pi w h hp1 hp2
    cases hq:q pi with
    | none=>rw [hq] at hF; exact .inr hF
    | some z =>
      obtain ⟨b,cp⟩:=z
      rw [hq] at hF
      refine .inl (hF.mono ?_)
      rintro e w' ⟨rfl,t,rfl⟩
      exact ⟨q,mp,n,pgs,b,cp,rfl,h.drewN t,hq,(Fr.refl _ w).drewN t,fun k hk=>.inl hk⟩
theorem zAH.shorten {G:Int→Nat} {bs:List Int} {q:Int→Option (Nat × Nat)} {mp:Int} {n p:Nat} {ao:Option Addr} {L cb:Nat} {pgs:Value} {w:World} (h:zAH tg G bs q mp n p (.slice ao L cb) pgs w) (hL:L=bs.length) (m:Nat) (hm:m≤bs.length) (h0:0<bs.length) :
    zAH tg G (bs.take m) q mp n p (.slice ao m cb) pgs (w.setCell ⟨p,0,none⟩ (.slice ao m cb)):=by
  subst hL
  have hl:(bs.take m).length=m:=by rw [List.length_take]; omega
  have hown:w.ownsRow 0 3 1 (.slice ao m cb) (bs.take m).length ((bs.take m).map (Value.int .i64)):=by
    rw [hl]
    refine ⟨by rw [List.length_map,hl,Nat.mul_one],?_⟩
    rcases h.core.buf.2 with ⟨h1,h2⟩ | ⟨g,cap,cur,h1,h2,h3,h4,h5,h6,h7⟩
    · omega
    · obtain ⟨rfl,rfl⟩:ao=some ⟨g,0,none⟩∧cb=cap:=by simpa using h1
      refine .inr ⟨g,cb,cur,rfl,h2,h3,by omega,h5,h6,?_⟩
      rw [Nat.mul_one] at h7 ⊢
      rw [List.map_take,← h7,List.take_take,Nat.min_eq_left hm]
  refine ⟨⟨h.core.fields.set0 _,ownsRow_setCell_other hown (fun e=>?_) _,ownsRow_setCell_other h.core.row (fun e=>?_) _,fun x b cp hx=>?_,h.core.zero,h.core.inj⟩,h.inside,h.bd⟩
  · obtain ⟨_,hc⟩:=zAW hown e; exact zAr hc h.core.fields (by decide) rfl
  · obtain ⟨_,hc⟩:=zAW h.core.row e; exact zAr hc h.core.fields (by decide) rfl
  · obtain ⟨_,hc,_⟩:=(h.core.page x b cp hx).block
    exact (h.core.page x b cp hx).other (fun e=>zAr hc h.core.fields (by decide) e.symm) _
theorem zAH.copied {G:Int→Nat} {l:List Int} {q:Int→Option (Nat × Nat)} {mp:Int} {n p g cb:Nat} {pgs:Value} {w:World} (h:zAH tg G l q mp n p (.slice (some ⟨g,0,none⟩) l.length cb) pgs w) (s e:Nat) (hse:s≤e) (he:e≤l.length) :
    ∃ cur,w.heap[g]?=some (.cells cur 3 (0,0))∧s+(l.length - e)≤cur.size ∧
      zAH tg G (l.take s++(l.drop e++l.drop (s+(l.length - e)))) q mp n p (.slice (some ⟨g,0,none⟩) l.length cb) pgs (w.setRow g (cur.toList.take s++((l.drop e).map (Value.int .i64)++cur.toList.drop (s+(l.length - e)))).toArray):=by
  rcases id h.core.buf.2 with ⟨h1,h2⟩ | ⟨g',cap,cur,h1,h2,h3,h4,h5,h6,h7⟩
  · cases h1
  · cases h1
    rw [Nat.mul_one] at h7 h6
    have hll:(l.take s++(l.drop e++l.drop (s+(l.length - e)))).length=l.length:=by
      simp only [List.length_append,List.length_take,List.length_drop]; omega
    have hcl:l.length≤cur.toList.length:=by
      have:cur.toList.length=cur.size:=Array.length_toList
      omega
    refine ⟨cur,h3,by omega,h.bufSet ?_ ⟨rfl,rfl,rfl,by simp [World.setRow],fun k _ hk=>setRow_other w g k _ (fun e=>hk (by rw [e]; rfl))⟩⟩
    rw [hll]
    refine ⟨by rw [List.length_map,hll,Nat.mul_one],.inr ⟨g,cb,_,rfl,Nat.zero_le _,setRow_heap w g cur _ _ _ h3,h4,h5,?_,?_⟩⟩
    · simp only [List.size_toArray,List.length_append,List.length_take,List.length_drop,List.length_map,Array.length_toList]; omega
    · rw [Nat.mul_one]
      show ((cur.toList.take s++((l.drop e).map (Value.int .i64)++cur.toList.drop (s+(l.length - e))))).take l.length=_
      have e1:(cur.toList.take s).length=s:=by rw [List.length_take]; omega
      have e2:((l.drop e).map (Value.int .i64)).length=l.length - e:=by rw [List.length_map,List.length_drop]
      have e3:cur.toList.take s=(l.take s).map (Value.int .i64):=by rw [List.map_take,← h7,List.take_take,Nat.min_eq_left (by omega)]
      have e4:(cur.toList.drop (s+(l.length - e))).take (l.length - s - (l.length - e))=(l.drop (s+(l.length - e))).map (Value.int .i64):=by
        rw [List.map_drop,← h7,List.drop_take]
        congr 1
        omega
      have a1:(cur.toList.take s).take l.length=cur.toList.take s:=List.take_of_length_le (by rw [e1]; omega)
      have a2:((l.drop e).map (Value.int .i64)).take (l.length - s)=(l.drop e).map (Value.int .i64):=List.take_of_length_le (by rw [e2]; omega)
      rw [List.take_append,e1,a1,List.take_append,e2,a2,e4,e3]
      rw [List.map_append,List.map_append]
theorem zOa {l:List Int} {s e:Nat} (hse:s≤e) (he:e≤l.length):(l.take s++(l.drop e++l.drop (s+(l.length - e)))).take (s+(l.length - e))=l.take s++l.drop e:=by
  have e1:(l.take s).length=s:=by rw [List.length_take]; omega
  have a1:(l.take s).take (s+(l.length - e))=l.take s:=List.take_of_length_le (by rw [e1]; omega)
  have a2:(l.drop e).take (s+(l.length - e) - s)=l.drop e:=List.take_of_length_le (by rw [List.length_drop]; omega)
  rw [List.take_append,e1,a1,List.take_append,List.length_drop,a2]
  rw [show s+(l.length - e) - s - (l.length - e)=0 from by omega,List.take_zero,List.append_nil]
theorem zDn (a b:List Int) (x:Int):cntI (a++b) x=cntI a x+cntI b x:=by
  induction a with
  | nil=>show cntI b x=0+cntI b x; omega
  | cons y t ih =>
    show zAe (cntI (t++b)) y 1 x=zAe (cntI t) y 1 x+cntI b x
    unfold zAe
    split
    · rw [ih]; omega
    · exact ih
theorem zS5 {l:List Int} {s e:Nat} (hse:s≤e) (x:Int):cntI ((l.drop s).take (e - s)) x+cntI (l.take s++l.drop e) x=cntI l x:=by
  have e1:l=l.take s++((l.drop s).take (e - s)++l.drop e):=by
    conv=>lhs; rw [← List.take_append_drop s l]
    congr 1
    conv=>lhs; rw [← List.take_append_drop (e - s) (l.drop s)]
    rw [List.drop_drop,show s+(e - s)=e from by omega]
  conv=>rhs; rw [e1]
  rw [zDn,zDn,zDn]
  omega
end Go.Proofs.YtllaekopaglolaaGreat
end
