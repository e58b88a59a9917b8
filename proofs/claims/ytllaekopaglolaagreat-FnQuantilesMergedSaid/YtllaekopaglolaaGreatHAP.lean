/-
  extendRange walked: of an empty dense store,of one that has counts.
-/
import Derived.Test.YtllaekopaglolaaGreatHAM
import Derived.Test.YtllaekopaglolaaGreatHAO
section
namespace Go.Proofs.YtllaekopaglolaaGreat
open Go.RowKit
def zKI (p:Nat) (rest:List Value) (T:TypeId) (w:World):Prop:=DS w p rest T (.slice none 0 0) (.float .f64 0) (.int .i64 0) (.int .i64 2147483647) (.int .i64 (-2147483648))
def zEZ (f:Int→Nat) (c:Value) (mn mx:Int) (p:Nat) (g:Option Nat) (rest:List Value) (T:TypeId) (w:World) (e:Ending) (w':World):Prop :=
  ∃ g' L cp,e = .returned (.tuple #[])∧zBW f c mn mx p g' L cp rest T w'∧p≠g'∧L≤50000∧Fr (fun b=>b=p∨g=some b) w w'∧(g=some g'∨w.heap.size≤g')
set_option maxRecDepth 100000 in
set_option maxHeartbeats 1000000 in
theorem zHa (a b:Int) (p:Nat) (rest:List Value) (T:TypeId) (w:World) (h:zKI p rest T w) (hab:a≤b) (b1:-10000≤a) (b2:b≤10000) :
    Calls Tryz.prog 184 #[.pointer (some ⟨p,0,none⟩),.int .i64 a,.int .i64 b] w fun e w'=>zEZ (fun _=>0) (.float .f64 0) a b p none rest T w e w':=by
  obtain ⟨d0,d1,d2,d3,d4⟩:=h.cells
  obtain ⟨d,hd⟩:∃ d:Nat,b - a+1=(d:Int):=⟨(b - a+1).toNat,by omega⟩
  have H1:=fun w=>zOA a 2147483647 w
  rw [show min a 2147483647=a from by omega] at H1
  have H2:=fun w=>zOB b (-2147483648) w
  rw [show max b (-2147483648)=b from by omega] at H2
  have H3:=zCb p 0 (by decide) w (by rw [zAp]; exact d1)
  rw [show ((0:Nat) == 0)=true from rfl] at H3
  have H4:=fun w=>zIC d a b (.pointer (some ⟨p,0,none⟩)) w (by omega) (by omega) hd (by omega) (by omega)
  have f0:=h.free 0
  have HH:=Lib.hid h
  have HDD:=Lib.hid hd
  clear h hd d1
  go_enter Tryz.func184,Tryz.ntmps184
  go_wp2_with fail
  refine (H1 _).mono ?_
  rintro e w' ⟨rfl,rfl⟩
  go_wp2_with fail
  refine (H2 _).mono ?_
  rintro e w' ⟨rfl,rfl⟩
  go_wp2_with fail
  refine H3.mono ?_
  rintro e w' ⟨rfl,rfl⟩
  go_wp2_with fail
  refine (H4 _).mono ?_
  rintro e w' ⟨k,hk1,hk2,rfl,rfl⟩
  have hk3:0<k:=by (have:=HDD.out; omega)
  have hk4:k≤41002:=by have:=HDD.out; omega
  have hz0:(0:Nat)+k=k:=Nat.zero_add k
  go_wp2_with (at_builtin; refine zBU w rfl _ _ 23 3 rfl Tryz.underlying23 Tryz.underlying3 Tryz.infoF64 (.slice none 0 0) 0 k (fun _=>0) rfl rfl (.inl ⟨rfl,rfl⟩) hk3 (by omega) (by omega) ?_; intro v' w1 hgr; obtain ⟨g,cp,rfl,hrow,hgrow,hg⟩:=hgr; rw [hz0] at hrow; rw [hz0]; have hd1:=HH.out.fr (S:=fun _=>False) ⟨hgrow.os,hgrow.tape,hgrow.output,hgrow.size,fun k hk _=>hgrow.block k hk (by simp [Value.ownBlock])⟩ (fun h=>h); have e0:=hd1.free 0; have e2:=hd1.free 2; have e3:=hd1.free 3; have e4:=hd1.free 4; obtain ⟨q0,-,q2,q3,q4⟩:=hd1.cells; have HD1:=Lib.hid hd1; have HGR:=Lib.hid hgrow; have HRW:=Lib.hid hrow; have HG:=Lib.hid hg; clear hd1 hgrow hrow hg f0 d0 d2 d3 d4)
  have hpl:p<w.heap.size:=HH.out.lt
  obtain rfl:g=w.heap.size:=by
    rcases HG.out with h | h
    · simp [Value.ownBlock] at h
    · exact h
  have hpg:p≠w.heap.size:=by omega
  have hfr:Fr (fun b=>b=p∨(none:Option Nat)=some b) w w1:=⟨HGR.out.os,HGR.out.tape,HGR.out.output,HGR.out.size,fun k hk _=>HGR.out.block k hk (by simp [Value.ownBlock])⟩
  have hd5:=(((HD1.out.set0 (.slice (some ⟨w.heap.size,0,none⟩) k cp)).set2 (.int .i64 a)).set3 (.int .i64 a)).set4 (.int .i64 b)
  have hr5:=(((HRW.out.other (p:=⟨p,0,none⟩) hpg (.slice (some ⟨w.heap.size,0,none⟩) k cp)).other (p:=⟨p,2,none⟩) hpg (.int .i64 a)).other (p:=⟨p,3,none⟩) hpg (.int .i64 a)).other (p:=⟨p,4,none⟩) hpg (.int .i64 b)
  have hf5:=(((hfr.setCell (p:=⟨p,0,none⟩) (fun _=>.inl rfl) (.slice (some ⟨w.heap.size,0,none⟩) k cp)).setCell (p:=⟨p,2,none⟩) (fun _=>.inl rfl) (.int .i64 a)).setCell (p:=⟨p,3,none⟩) (fun _=>.inl rfl) (.int .i64 a)).setCell (p:=⟨p,4,none⟩) (fun _=>.inl rfl) (.int .i64 b)
  revert hd5 hr5 hf5
  generalize (((w1.setCell ⟨p,0,none⟩ (.slice (some ⟨w.heap.size,0,none⟩) k cp)).setCell ⟨p,2,none⟩ (.int .i64 a)).setCell ⟨p,3,none⟩ (.int .i64 a)).setCell ⟨p,4,none⟩ (.int .i64 b)=W
  intro hd5 hr5 hf5
  have hok:zBW (fun _=>0) (.float .f64 0) a b p w.heap.size k cp rest T W :=
    ⟨a,hd5,hr5.ext (fun j _=>by split <;> rfl),Int.le_refl _,by have:=HDD.out; omega,by omega,by omega⟩
  have H5:=zC1 (fun _=>0) (.float .f64 0) a b a b p w.heap.size k cp rest T W hok hpg (fun _ _=>rfl) hab (Int.le_refl _) (Int.le_refl _) (by have:=HDD.out; omega) (by omega) (by omega) (by omega)
  have HF5:=Lib.hid hf5
  clear hd5 hr5 hf5 hok hfr q0 q2 q3 q4 e0 e2 e3 e4
  refine H5.mono ?_
  clear H5
  rintro e w6 ⟨rfl,hd6,hf6⟩
  have HD6:=Lib.hid hd6
  have HF6:=Lib.hid hf6
  clear hd6 hf6
  go_wp2
  go_end0
  exact ⟨w.heap.size,k,cp,rfl,HD6.out,hpg,by omega,HF5.out.trans HF6.out (fun _ _ h=>h) (fun i hi h=>h.elim .inl (fun h=>by omega)),.inr (Nat.le_refl _)⟩
structure zJE (f:Int→Nat) (n:Nat) (mn mx:Int) (p g L cp:Nat) (rest:List Value) (T:TypeId) (w:World):Prop where
  ok:zBW f (.float .f64 (nf n)) mn mx p g L cp rest T w
  ne:p≠g
  zero:∀ i,i<mn∨mx<i→f i=0
  le:mn≤mx
  pos:0<n
  lt:n<9007199254740992
  lo:-10000≤mn
  hi:mx≤10000
  len:L≤50000
set_option maxRecDepth 100000 in
set_option maxHeartbeats 1000000 in
theorem zHZ (f:Int→Nat) (n:Nat) (a b mn mx na nb:Int) (p g L cp:Nat) (rest:List Value) (T:TypeId) (w:World) (h:zJE f n mn mx p g L cp rest T w) (b1:-10000≤a) (b2:b≤10000) (ha:na=min a mn) (hb:nb=max b mx) :
    Calls Tryz.prog 184 #[.pointer (some ⟨p,0,none⟩),.int .i64 a,.int .i64 b] w fun e w'=>zEZ f (.float .f64 (nf n)) na nb p (some g) rest T w e w':=by
  obtain ⟨⟨off,hd,hr,o1,o2,o3,o4⟩,hpg,hz,hle,hp0,hp1,hlo,hhi,hL⟩:=h
  obtain ⟨d0,d1,d2,d3,d4⟩:=hd.cells
  obtain ⟨d,hdd⟩:∃ d:Nat,nb - na+1=(d:Int):=⟨(nb - na+1).toNat,by omega⟩
  have H1:=fun w=>zOA a mn w
  rw [← ha] at H1
  have H2:=fun w=>zOB b mx w
  rw [← hb] at H2
  have H3:=zCb p n hp1 w d1
  rw [show (n == 0)=false from by simp; omega] at H3
  have H4:=fun w=>zIC d na nb (.pointer (some ⟨p,0,none⟩)) w (by omega) (by omega) hdd (by omega) (by omega)
  have f0:=hd.free 0
  have f3:=hd.free 3
  have f4:=hd.free 4
  have g1:-10000≤na:=by omega
  have g2:nb≤10000:=by omega
  have g3:na≤mn:=by omega
  have g4:mx≤nb:=by omega
  have HDD:=Lib.hid hdd
  have HD:=Lib.hid hd
  have HR:=Lib.hid hr
  have HZ:=Lib.hid hz
  have i1:IntKind.i64.wrap (off+(L:Int))=off+(L:Int):=by rw [IntKind.wrap_i64]; omega
  clear hdd hd hr hz d1 ha hb b1 b2
  generalize Value.float .f64 (nf n)=c at *
  by_cases hc1:off≤na
  · by_cases hc2:nb<off+(L:Int)
    · have q1:decide (off≤na)=true:=by simpa using hc1
      have q2:decide (nb<off+(L:Int))=true:=by simpa using hc2
      go_enter Tryz.func184,Tryz.ntmps184
      go_wp2_with (first | (go_at_call 185; (with_reducible refine (H1 _).mono ?_); rintro e w' ⟨rfl,rfl⟩) | (go_at_call 186; (with_reducible refine (H2 _).mono ?_); rintro e w' ⟨rfl,rfl⟩) | (go_at_call 175; (with_reducible refine H3.mono ?_); rintro e w' ⟨rfl,rfl⟩))
      go_quiet (fail)
      go_wp2
      go_end0
      refine ⟨g,L,cp,rfl,⟨off,((HD.out.drewN nq).set3 _).set4 _,((HR.out.drewN nq).other hpg _).other hpg _,hc1,hc2,o3,o4⟩,hpg,hL,?_,.inl rfl⟩
      exact (((Fr.refl _ w).drewN nq).setCell (fun _=>.inl rfl) _).setCell (fun _=>.inl rfl) _
    · have q1:decide (off≤na)=true:=by simpa using hc1
      have q2:decide (nb<off+(L:Int))=false:=by simpa using hc2
      go_enter Tryz.func184,Tryz.ntmps184
      go_wp2_with (first | (go_at_call 185; (with_reducible refine (H1 _).mono ?_); rintro e w' ⟨rfl,rfl⟩) | (go_at_call 186; (with_reducible refine (H2 _).mono ?_); rintro e w' ⟨rfl,rfl⟩) | (go_at_call 175; (with_reducible refine H3.mono ?_); rintro e w' ⟨rfl,rfl⟩))
      go_quiet (fail)
      go_wp2_with fail
      refine (H4 _).mono ?_
      rintro e w' ⟨k,hk1,hk2,rfl,rfl⟩
      have hk4:k≤41002:=by have:=HDD.out; omega
      by_cases hkL:L<k
      · obtain ⟨m,rfl⟩:∃ m,k=L+m:=⟨k - L,by omega⟩
        have hm0:0<m:=by omega
        have hm1:(0:Int)<(m:Int):=by omega
        have j1:IntKind.i64.wrap ((L:Int)+(m:Int) - (L:Int))=(m:Int):=by rw [IntKind.wrap_i64]; omega
        have j2:IntKind.i64.wrap (m:Int)=(m:Int):=by rw [IntKind.wrap_i64]; omega
        go_wp2
        obtain ⟨w0,hw0⟩:∃ w0,w0=w.drewN nq:=⟨_,rfl⟩
        have HD0:Hid (DS w0 p rest T (.slice (some ⟨g,0,none⟩) L cp) c (.int .i64 off) (.int .i64 mn) (.int .i64 mx)):=by show DS _ _ _ _ _ _ _ _ _; rw [hw0]; exact HD.out.drewN nq
        have HR0:Hid (Row w0 g L cp (fun j=>f (off+j))):=by show Row _ _ _ _ _; rw [hw0]; exact HR.out.drewN nq
        have HF0:Hid (Fr (fun b=>b=p∨(some g:Option Nat)=some b) w w0):=by show Fr _ _ _; rw [hw0]; exact (Fr.refl _ w).drewN nq
        have hz0:w.heap.size=w0.heap.size:=by rw [hw0]; rfl
        have HZ0:=Lib.hid hz0
        rw [← hw0]
        clear hw0 hz0 d0 d2 d3 d4
        obtain ⟨d0,-,d2,d3,d4⟩:=HD0.out.cells
        clear HD HR d2 d3 d4
        go_region_law (rw [if_pos (by rfl)]; refine zF6 (w0.drew) _ _ 23 3 rfl Tryz.underlying23 Tryz.underlying3 Tryz.infoF64 (.slice (some ⟨g,0,none⟩) L cp) L m (fun j=>f (off+j)) rfl rfl (.inr ⟨g,cp,rfl,HR0.out.drew⟩) hm0 (by omega) (by omega) ?_; intro v' w1 hgr; obtain ⟨g',cp',rfl,hrow,hgrow,hg⟩:=hgr; have hd1:=HD0.out.fr (S:=fun b=>b=g) ⟨hgrow.os,hgrow.tape,hgrow.output,hgrow.size,fun b hb hn=>hgrow.block b hb (by simpa [Value.ownBlock] using hn)⟩ hpg; have e0:=hd1.free 0; obtain ⟨q0,-,q2,q3,q4⟩:=hd1.cells; have HD1:=Lib.hid hd1; have HGR:=Lib.hid hgrow; have HRW:=Lib.hid hrow; have HG:=Lib.hid hg; clear hd1 hgrow hrow hg f0 d0)
        all_goals
          have hg':g'=g∨w.heap.size≤g':=by
            rcases HG.out with h | h
            · left; simp [Value.ownBlock] at h; exact h.symm
            · right; rw [h,HZ0.out]; exact Nat.le_refl _
          have hpl:p<w.heap.size:=by rw [HZ0.out]; exact HD0.out.lt
          have hpg':p≠g':=by omega
          have hfr:Fr (fun b=>b=p∨(some g:Option Nat)=some b) w w1:=HF0.out.trans (T:=fun b=>b=p∨(some g:Option Nat)=some b) ⟨HGR.out.os,HGR.out.tape,HGR.out.output,HGR.out.size,fun b hb hn=>HGR.out.block b hb (by simp [Value.ownBlock]; intro e; exact hn (.inr (by rw [e])))⟩ (fun _ _ h=>h) (fun _ _ h=>h)
          have hd5:=HD1.out.set0 (.slice (some ⟨g',0,none⟩) (L+m) cp')
          have hr5:=HRW.out.other (p:=⟨p,0,none⟩) hpg' (.slice (some ⟨g',0,none⟩) (L+m) cp')
          have hf5:=hfr.setCell (p:=⟨p,0,none⟩) (fun _=>.inl rfl) (.slice (some ⟨g',0,none⟩) (L+m) cp')
          revert hd5 hr5 hf5
          generalize w1.setCell ⟨p,0,none⟩ (.slice (some ⟨g',0,none⟩) (L+m) cp')=W
          intro hd5 hr5 hf5
          have hok:zBW f c mn mx p g' (L+m) cp' rest T W :=
            ⟨off, hd5, hr5.ext (fun j _ => by by_cases hj : (j : Int) < (L : Int); · rw [if_pos hj]
                                              · rw [if_neg hj]; exact (HZ.out _ (by omega)).symm), o1, by omega, o3, o4⟩
          have H5:=zC1 f c mn mx na nb p g' (L+m) cp' rest T W hok hpg' HZ.out hle g3 g4 (by have:=HDD.out; omega) (by omega) (by omega) (by omega)
          have HF5:=Lib.hid hf5
          clear hd5 hr5 hf5 hok hfr q0 q2 q3 q4 e0
          go_wp2_with (go_at_call 188; (with_reducible refine H5.mono ?_); rintro e w6 ⟨rfl,hd6,hf6⟩; have HD6:=Lib.hid hd6; have HF6:=Lib.hid hf6; clear hd6 hf6)
          go_end0
          refine ⟨g',L+m,cp',rfl,HD6.out,hpg',by omega,HF5.out.trans HF6.out (fun _ _ h=>h) ?_,?_⟩
          · intro i hi h
            rcases h with h | h
            · exact .inl h
            · rcases hg' with h2 | h2
              · exact .inr (by rw [h,h2])
              · omega
          · rcases hg' with h2 | h2
            · exact .inl (by rw [h2])
            · exact .inr h2
      · have H5:=zC1 f c mn mx na nb p g L cp rest T (w.drewN nq) ⟨off,HD.out.drewN nq,HR.out.drewN nq,o1,o2,o3,o4⟩ hpg HZ.out hle g3 g4 (by have:=HDD.out; omega) (by omega) (by omega) (by omega)
        have hkL2:¬ (L:Int)<(k:Int):=by omega
        go_wp2_with (go_at_call 188; (with_reducible refine H5.mono ?_); rintro e w6 ⟨rfl,hd6,hf6⟩; have HD6:=Lib.hid hd6; have HF6:=Lib.hid hf6; clear hd6 hf6)
        go_end0
        exact ⟨g,L,cp,rfl,HD6.out,hpg,hL,((Fr.refl _ w).drewN nq).trans HF6.out (fun _ _ h=>h) (fun i hi h=>h.elim .inl (fun h=>.inr (by rw [h]))),.inl rfl⟩
  · have q1:decide (off≤na)=false:=by simpa using hc1
    go_enter Tryz.func184,Tryz.ntmps184
    go_wp2_with (first | (go_at_call 185; (with_reducible refine (H1 _).mono ?_); rintro e w' ⟨rfl,rfl⟩) | (go_at_call 186; (with_reducible refine (H2 _).mono ?_); rintro e w' ⟨rfl,rfl⟩) | (go_at_call 175; (with_reducible refine H3.mono ?_); rintro e w' ⟨rfl,rfl⟩))
    go_quiet (fail)
    go_wp2_with fail
    refine (H4 _).mono ?_
    rintro e w' ⟨k,hk1,hk2,rfl,rfl⟩
    have hk4:k≤41002:=by have:=HDD.out; omega
    by_cases hkL:L<k
    · obtain ⟨m,rfl⟩:∃ m,k=L+m:=⟨k - L,by omega⟩
      have hm0:0<m:=by omega
      have hm1:(0:Int)<(m:Int):=by omega
      have j1:IntKind.i64.wrap ((L:Int)+(m:Int) - (L:Int))=(m:Int):=by rw [IntKind.wrap_i64]; omega
      have j2:IntKind.i64.wrap (m:Int)=(m:Int):=by rw [IntKind.wrap_i64]; omega
      go_wp2
      obtain ⟨w0,hw0⟩:∃ w0,w0=w.drewN nq:=⟨_,rfl⟩
      have HD0:Hid (DS w0 p rest T (.slice (some ⟨g,0,none⟩) L cp) c (.int .i64 off) (.int .i64 mn) (.int .i64 mx)):=by show DS _ _ _ _ _ _ _ _ _; rw [hw0]; exact HD.out.drewN nq
      have HR0:Hid (Row w0 g L cp (fun j=>f (off+j))):=by show Row _ _ _ _ _; rw [hw0]; exact HR.out.drewN nq
      have HF0:Hid (Fr (fun b=>b=p∨(some g:Option Nat)=some b) w w0):=by show Fr _ _ _; rw [hw0]; exact (Fr.refl _ w).drewN nq
      have hz0:w.heap.size=w0.heap.size:=by rw [hw0]; rfl
      have HZ0:=Lib.hid hz0
      rw [← hw0]
      clear hw0 hz0 d0 d2 d3 d4
      obtain ⟨d0,-,d2,d3,d4⟩:=HD0.out.cells
      clear HD HR d2 d3 d4
      go_region_law (rw [if_pos (by rfl)]; refine zF6 (w0.drew) _ _ 23 3 rfl Tryz.underlying23 Tryz.underlying3 Tryz.infoF64 (.slice (some ⟨g,0,none⟩) L cp) L m (fun j=>f (off+j)) rfl rfl (.inr ⟨g,cp,rfl,HR0.out.drew⟩) hm0 (by omega) (by omega) ?_; intro v' w1 hgr; obtain ⟨g',cp',rfl,hrow,hgrow,hg⟩:=hgr; have hd1:=HD0.out.fr (S:=fun b=>b=g) ⟨hgrow.os,hgrow.tape,hgrow.output,hgrow.size,fun b hb hn=>hgrow.block b hb (by simpa [Value.ownBlock] using hn)⟩ hpg; have e0:=hd1.free 0; obtain ⟨q0,-,q2,q3,q4⟩:=hd1.cells; have HD1:=Lib.hid hd1; have HGR:=Lib.hid hgrow; have HRW:=Lib.hid hrow; have HG:=Lib.hid hg; clear hd1 hgrow hrow hg f0 d0)
      all_goals
        have hg':g'=g∨w.heap.size≤g':=by
          rcases HG.out with h | h
          · left; simp [Value.ownBlock] at h; exact h.symm
          · right; rw [h,HZ0.out]; exact Nat.le_refl _
        have hpl:p<w.heap.size:=by rw [HZ0.out]; exact HD0.out.lt
        have hpg':p≠g':=by omega
        have hfr:Fr (fun b=>b=p∨(some g:Option Nat)=some b) w w1:=HF0.out.trans (T:=fun b=>b=p∨(some g:Option Nat)=some b) ⟨HGR.out.os,HGR.out.tape,HGR.out.output,HGR.out.size,fun b hb hn=>HGR.out.block b hb (by simp [Value.ownBlock]; intro e; exact hn (.inr (by rw [e])))⟩ (fun _ _ h=>h) (fun _ _ h=>h)
        have hd5:=HD1.out.set0 (.slice (some ⟨g',0,none⟩) (L+m) cp')
        have hr5:=HRW.out.other (p:=⟨p,0,none⟩) hpg' (.slice (some ⟨g',0,none⟩) (L+m) cp')
        have hf5:=hfr.setCell (p:=⟨p,0,none⟩) (fun _=>.inl rfl) (.slice (some ⟨g',0,none⟩) (L+m) cp')
        revert hd5 hr5 hf5
        generalize w1.setCell ⟨p,0,none⟩ (.slice (some ⟨g',0,none⟩) (L+m) cp')=W
        intro hd5 hr5 hf5
        have hok:zBW f c mn mx p g' (L+m) cp' rest T W :=
          ⟨off, hd5, hr5.ext (fun j _ => by by_cases hj : (j : Int) < (L : Int); · rw [if_pos hj]
                                            · rw [if_neg hj]; exact (HZ.out _ (by omega)).symm), o1, by omega, o3, o4⟩
        have H5:=zC1 f c mn mx na nb p g' (L+m) cp' rest T W hok hpg' HZ.out hle g3 g4 (by have:=HDD.out; omega) (by omega) (by omega) (by omega)
        have HF5:=Lib.hid hf5
        clear hd5 hr5 hf5 hok hfr q0 q2 q3 q4 e0
        go_wp2_with (go_at_call 188; (with_reducible refine H5.mono ?_); rintro e w6 ⟨rfl,hd6,hf6⟩; have HD6:=Lib.hid hd6; have HF6:=Lib.hid hf6; clear hd6 hf6)
        go_end0
        refine ⟨g',L+m,cp',rfl,HD6.out,hpg',by omega,HF5.out.trans HF6.out (fun _ _ h=>h) ?_,?_⟩
        · intro i hi h
          rcases h with h | h
          · exact .inl h
          · rcases hg' with h2 | h2
            · exact .inr (by rw [h,h2])
            · omega
        · rcases hg' with h2 | h2
          · exact .inl (by rw [h2])
          · exact .inr h2
    · have H5:=zC1 f c mn mx na nb p g L cp rest T (w.drewN nq) ⟨off,HD.out.drewN nq,HR.out.drewN nq,o1,o2,o3,o4⟩ hpg HZ.out hle g3 g4 (by have:=HDD.out; omega) (by omega) (by omega) (by omega)
      have hkL2:¬ (L:Int)<(k:Int):=by omega
      go_wp2_with (go_at_call 188; (with_reducible refine H5.mono ?_); rintro e w6 ⟨rfl,hd6,hf6⟩; have HD6:=Lib.hid hd6; have HF6:=Lib.hid hf6; clear hd6 hf6)
      go_end0
      exact ⟨g,L,cp,rfl,HD6.out,hpg,hL,((Fr.refl _ w).drewN nq).trans HF6.out (fun _ _ h=>h) (fun i hi h=>h.elim .inl (fun h=>.inr (by rw [h]))),.inl rfl⟩
end Go.Proofs.YtllaekopaglolaaGreat
end
