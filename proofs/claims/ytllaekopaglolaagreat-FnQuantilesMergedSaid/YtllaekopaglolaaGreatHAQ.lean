/-
  normalize and AddWithCount of a dense store.
-/
import Derived.Test.YtllaekopaglolaaGreatHAP
import Derived.Maps.OwnOps
import Derived.Maps.OwnSet
import Derived.Maps.RangeWalk
import Derived.Sort.KeysCollected
import Derived.Shelf.Sort.Plain
import Derived.Shelf.Slices.In.SortNone
import Derived.Shelf.Slices.In.SortNone2
import Derived.Test.YtllaekopaglolaaGreatProg
section
namespace Go.Proofs.YtllaekopaglolaaGreat
open Go.RowKit
def zAe (f:Int→Nat) (i:Int) (c:Nat):Int→Nat:=fun j=>if j=i then f j+c else f j
def zKH (f:Int→Nat) (c:Value) (mn mx:Int) (p:Nat) (g:Option Nat) (rest:List Value) (T:TypeId) (i:Int) (w:World) (e:Ending) (w':World):Prop :=
  ∃ g' L cp off,e = .returned (.int .i64 (i - off))∧DS w' p rest T (.slice (some ⟨g',0,none⟩) L cp) c (.int .i64 off) (.int .i64 mn) (.int .i64 mx)∧Row w' g' L cp (fun j=>f (off+j))∧off≤mn∧mx<off+L ∧
    -1000000≤off∧off≤1000000∧p≠g'∧L≤50000∧Fr (fun b=>b=p∨g=some b) w w'∧(g=some g'∨w.heap.size≤g')
theorem zEZ.normed {f:Int→Nat} {c:Value} {mn mx:Int} {p:Nat} {g:Option Nat} {rest:List Value} {T:TypeId} {w w':World} {e:Ending} (h:zEZ f c mn mx p g rest T w e w') :
    e = .returned (.tuple #[])∧∃ off,w'.cell? ⟨p,2,none⟩=some (.int .i64 off) ∧ -1000000≤off∧off≤1000000∧∀ i,zKH f c mn mx p g rest T i w (.returned (.int .i64 (i - off))) w':=by
  obtain ⟨g',L,cp,rfl,⟨off,hd,hr,o1,o2,o3,o4⟩,hpg,hL,hf,hg⟩:=h
  exact ⟨rfl,off,hd.cells.2.2.1,o3,o4,fun i=>⟨g',L,cp,off,rfl,hd,hr,o1,o2,o3,o4,hpg,hL,hf,hg⟩⟩
set_option maxRecDepth 100000 in
set_option maxHeartbeats 400000 in
theorem zSF (i:Int) (p:Nat) (rest:List Value) (T:TypeId) (w:World) (h:zKI p rest T w) (b1:-10000≤i) (b2:i≤10000) :
    Calls Tryz.prog 182 #[.pointer (some ⟨p,0,none⟩),.int .i64 i] w fun e w'=>zKH (fun _=>0) (.float .f64 0) i i p none rest T i w e w':=by
  obtain ⟨-,-,-,d3,d4⟩:=h.cells
  have HX:=zHa i i p rest T w h (Int.le_refl _) b1 b2
  have hlt:i<2147483647:=by omega
  clear h
  go_enter Tryz.func182,Tryz.ntmps182
  go_wp2_with (go_at_call 184; (with_reducible refine HX.mono ?_); intro e w1 hx; obtain ⟨rfl,off,hc,o1,o2,hn⟩:=hx.normed; have HN:=Lib.hid (hn i); clear hx hn d3 d4)
  go_ret
  exact HN.out
set_option maxRecDepth 100000 in
set_option maxHeartbeats 400000 in
theorem zSE (f:Int→Nat) (n:Nat) (i mn mx:Int) (p g L cp:Nat) (rest:List Value) (T:TypeId) (w:World) (h:zJE f n mn mx p g L cp rest T w) (b1:-10000≤i) (b2:i≤10000) :
    Calls Tryz.prog 182 #[.pointer (some ⟨p,0,none⟩),.int .i64 i] w fun e w'=>zKH f (.float .f64 (nf n)) (min i mn) (max i mx) p (some g) rest T i w e w':=by
  obtain ⟨off,hd,hr,o1,o2,o3,o4⟩:=id h.ok
  obtain ⟨-,-,d2,d3,d4⟩:=hd.cells
  have HX:=zHZ f n i i mn mx (min i mn) (max i mx) p g L cp rest T w h b1 b2 rfl rfl
  have hle:=h.le
  have hin:mn≤i→i≤mx→zKH f (.float .f64 (nf n)) (min i mn) (max i mx) p (some g) rest T i w (.returned (.int .i64 (i - off))) w:=by
    intro h1 h2
    rw [show min i mn=mn from by omega,show max i mx=mx from by omega]
    exact ⟨g,L,cp,off,rfl,hd,hr,o1,o2,o3,o4,h.ne,h.len,Fr.refl _ _,.inl rfl⟩
  have HI:=Lib.hid hin
  clear h hd hr hin
  by_cases h1:i<mn
  · clear HI
    go_enter Tryz.func182,Tryz.ntmps182
    go_wp2_with (go_at_call 184; (with_reducible refine HX.mono ?_); intro e w1 hx; obtain ⟨rfl,off2,hc,o5,o6,hn⟩:=hx.normed; have HN:=Lib.hid (hn i); clear hx hn d2 d3 d4)
    go_ret
    exact HN.out
  · by_cases h2:mx<i
    · clear HI
      go_enter Tryz.func182,Tryz.ntmps182
      go_wp2_with (go_at_call 184; (with_reducible refine HX.mono ?_); intro e w1 hx; obtain ⟨rfl,off2,hc,o5,o6,hn⟩:=hx.normed; have HN:=Lib.hid (hn i); clear hx hn d2 d3 d4)
      go_ret
      exact HN.out
    · have HN:=Lib.hid (HI.out (by omega) (by omega))
      clear HI HX
      go_enter Tryz.func182,Tryz.ntmps182
      go_wp2
      go_ret
      exact HN.out
theorem zES (c:Nat) (h0:0<c) (hc:c<9007199254740992):(FloatKind.f64.format.order (nf c) 0 == some .eq)=false:=by
  have:=zBn c 0 hc (by decide)
  rw [zAp] at this
  rw [this,Nat.compare_eq_gt.2 h0]
  rfl
def zXy (f:Int→Nat) (n:Nat) (mn mx:Int) (p:Nat) (g:Option Nat) (rest:List Value) (T:TypeId) (w:World) (e:Ending) (w':World):Prop :=
  ∃ g' L cp,e = .returned (.tuple #[])∧zBW f (.float .f64 (nf n)) mn mx p g' L cp rest T w'∧p≠g'∧L≤50000∧Fr (fun b=>b=p∨g=some b) w w'∧(g=some g'∨w.heap.size≤g')
set_option maxRecDepth 100000 in
set_option maxHeartbeats 400000 in
theorem zOi (f:Int→Nat) (n c:Nat) (i mn mx:Int) (p:Nat) (g:Option Nat) (rest:List Value) (T:TypeId) (w:World) (hc0:0<c) (hs:n+c<9007199254740992) (hfi:f i≤n) (h1:mn≤i) (h2:i≤mx)
   (H:Calls Tryz.prog 182 #[.pointer (some ⟨p,0,none⟩),.int .i64 i] w fun e w'=>zKH f (.float .f64 (nf n)) mn mx p g rest T i w e w') :
    Calls Tryz.prog 168 #[.pointer (some ⟨p,0,none⟩),.int .i64 i,.float .f64 (nf c)] w fun e w'=>zXy (zAe f i c) (n+c) mn mx p g rest T w e w':=by
  have hz:=zES c hc0 (by omega)
  have hadd2:=fun w:World=>run_float_arith (P:=Tryz.prog) w .add 29 .f64 _ _ _ (zAz n c hs)
  have hadd1:=fun w:World=>run_float_arith (P:=Tryz.prog) w .add 29 .f64 _ _ _ (zAz (f i) c (by omega))
  obtain ⟨y,hy⟩:∃ y,y=nf c:=⟨_,rfl⟩
  rw [← hy] at hz hadd1 hadd2 ⊢
  have HY:=Lib.hid hy
  clear hy
  go_enter Tryz.func168,Tryz.ntmps168
  go_wp2_with fail
  refine H.mono ?_
  clear H
  rintro e w1 ⟨g',L,cp,off,rfl,hd,hr,o1,o2,o3,o4,hpg,hL,hf,hg⟩
  obtain ⟨j,hj⟩:∃ j:Nat,i - off=(j:Int):=⟨(i - off).toNat,by omega⟩
  have hjL:j<L:=by omega
  have hjL':(j:Int)<(L:Int):=by omega
  obtain ⟨d0,d1,-,-,-⟩:=hd.cells
  have f1:=hd.free 1
  have hcell:=hr.cell j hjL
  rw [show off+(j:Int)=i from by omega] at hcell
  have hfree:=hr.free j
  have HD:=Lib.hid hd
  have HR:=Lib.hid hr
  have HF:=Lib.hid hf
  have HG:=Lib.hid hg
  have HJ:=Lib.hid hj
  rw [hj]
  clear hd hr hf hg hj
  go_wp2
  go_end0
  have hj:=HJ.out
  refine ⟨g',L,cp,rfl,⟨off,(HD.out.row hpg j _).set1 _,?_,o1,o2,o3,o4⟩,hpg,hL,?_,HG.out⟩
  · have hr6:Row ((w1.setCell ⟨g',j,none⟩ (.float .f64 (nf (f i+c)))).setCell ⟨p,1,none⟩ (.float .f64 (nf (n+c)))) g' L cp _:=(HR.out.set j (f i+c) hjL).other hpg _
    refine hr6.ext (fun x hx=>?_)
    unfold zAe
    by_cases hxj:(x:Int)=(j:Int)
    · rw [if_pos hxj,if_pos (by omega),show off+(x:Int)=i from by omega]
    · rw [if_neg hxj,if_neg (by omega)]
  · refine (HF.out.setCell ?_ _).setCell (fun _=>.inl rfl) _
    intro hlt
    rcases HG.out with h | h
    · exact .inr h
    · exact absurd hlt (by show ¬ g'<_; omega)
end Go.Proofs.YtllaekopaglolaaGreat
end
/-
  zOp below an index; counts of which the lowest (the highest) ones are put together; plainly.
-/
section
namespace Go.Proofs.YtllaekopaglolaaGreat
open Go.RowKit
def sumF (f:Int→Nat) (a:Int):Nat→Nat
  | 0=>0
  | k+1=>sumF f a k+f (a+(k:Int))
theorem zWb {f g:Int→Nat} {a:Int} {k:Nat} (h:∀ j:Nat,j<k→f (a+j)=g (a+j)):sumF f a k=sumF g a k:=by
  induction k with
  | zero=>rfl
  | succ k ih=>rw [sumF,sumF,ih (fun j hj=>h j (by omega)),h k (by omega)]
theorem zGt {f:Int→Nat} {a:Int} {k:Nat} (h:∀ j:Nat,j<k→f (a+j)=0):sumF f a k=0:=by
  induction k with
  | zero=>rfl
  | succ k ih=>rw [sumF,ih (fun j hj=>h j (by omega)),h k (by omega)]
theorem zTp (f:Int→Nat) (a:Int) (k m:Nat):sumF f a (k+m)=sumF f a k+sumF f (a+k) m:=by
  induction m with
  | zero=>rfl
  | succ m ih=>rw [← Nat.add_assoc,sumF,ih,sumF,Nat.add_assoc,show a+((k+m:Nat):Int)=a+(k:Int)+(m:Int) from by omega]
theorem zOz (f:Int→Nat) (a i:Int) (c k:Nat):sumF (zAe f i c) a k=sumF f a k+if a≤i∧i<a+k then c else 0:=by
  induction k with
  | zero=>rw [if_neg (by omega)]; rfl
  | succ k ih =>
    rw [sumF,ih,sumF]
    unfold zAe
    by_cases h:a+(k:Int)=i
    · rw [if_pos h,if_neg (by omega),if_pos (by omega)]; omega
    · rw [if_neg h]
      by_cases h2:a≤i∧i<a+(k:Int)
      · rw [if_pos h2,if_pos (by omega)]; omega
      · rw [if_neg h2,if_neg (by omega)]; omega
def cum (f:Int→Nat) (x:Int):Nat:=sumF f (-10000) (x+10000).toNat
theorem zCc (f:Int→Nat) (x:Int):cum f x=sumF f (-10000) (x+10000).toNat:=rfl
def tot2 (f:Int→Nat):Nat:=cum f 10001
theorem zBv (f:Int→Nat):tot2 f=cum f 10001:=rfl
theorem zFU (f:Int→Nat) (x:Int) (h:-10000≤x):cum f (x+1)=cum f x+f x:=by
  obtain ⟨k,rfl⟩:∃ k:Nat,x = -10000+(k:Int):=⟨(x+10000).toNat,by omega⟩
  rw [zCc,zCc,show (-10000+(k:Int)+1+10000).toNat=k+1 from by omega,show (-10000+(k:Int)+10000).toNat=k from by omega,sumF]
theorem zJ5 (f:Int→Nat) (x y:Int) (h1:-10000≤x) (h2:x≤y):cum f y=cum f x+sumF f x (y - x).toNat:=by
  rw [zCc,zCc,show (y+10000).toNat=(x+10000).toNat+(y - x).toNat from by omega,zTp,show (-10000+((x+10000).toNat:Int))=x from by omega]
theorem zI5 (f:Int→Nat) (x y:Int) (h2:x≤y):cum f x≤cum f y:=by
  by_cases h:-10000≤x
  · rw [zJ5 f x y h h2]; omega
  · rw [zCc f x,show (x+10000).toNat=0 from by omega,sumF]; omega
theorem zBM (f:Int→Nat) (x y:Int) (h2:x≤y) (hz:∀ i,x≤i→i<y→f i=0):cum f y=cum f x:=by
  by_cases h:-10000≤x
  · rw [zJ5 f x y h h2,zGt (fun j hj=>hz _ (by omega) (by omega)),Nat.add_zero]
  · by_cases h3:-10000≤y
    · rw [zCc f x,show (x+10000).toNat=0 from by omega,sumF,zCc,zGt (fun j hj=>hz _ (by omega) (by omega))]
    · rw [zCc,zCc,show (x+10000).toNat=0 from by omega,show (y+10000).toNat=0 from by omega]
theorem zBF (f:Int→Nat) (x:Int) (hz:∀ i,i<x→f i=0):cum f x=0:=by
  rw [zCc]; exact zGt (fun j hj=>hz _ (by omega))
theorem zFX (f:Int→Nat) (i x:Int) (c:Nat) (h:-10000≤i):cum (zAe f i c) x=cum f x+if i<x then c else 0:=by
  rw [zCc,zCc,zOz]
  by_cases hi:i<x
  · rw [if_pos (by omega),if_pos hi]
  · rw [if_neg (by omega),if_neg hi]
theorem zCR (f:Int→Nat) (x:Int) (h:x≤10001):cum f x≤tot2 f:=zI5 f x _ h
theorem zCk (f:Int→Nat) (i:Int) (h1:-10000≤i) (h2:i≤10000):f i≤tot2 f:=by
  have:=zCR f (i+1) (by omega)
  rw [zFU f i h1] at this; omega
theorem zOx (f:Int→Nat) (i:Int) (c:Nat) (h1:-10000≤i) (h2:i≤10000):tot2 (zAe f i c)=tot2 f+c:=by
  rw [zBv,zFX f i _ c h1,if_pos (by omega),zBv]
theorem zKM (f:Int→Nat) (x:Int) (h:x≤10001) (hz:∀ i,x≤i→f i=0):tot2 f=cum f x:=zBM f x 10001 h (fun i h1 _=>hz i h1)
def sqL (f:Int→Nat) (lo:Int):Int→Nat:=fun i=>if i<lo then 0 else if i=lo then cum f (lo+1) else f i
theorem zTt (f:Int→Nat) (lo:Int) (h:∀ i,i<lo→f i=0) (hl:∀ i,i < -10000→f i=0):sqL f lo=f:=by
  funext i
  unfold sqL
  by_cases h1:i<lo
  · rw [if_pos h1,h i h1]
  · rw [if_neg h1]
    by_cases h2:i=lo
    · subst h2
      rw [if_pos rfl]
      by_cases h3:-10000≤i
      · rw [zFU f i h3,zBF f i h,Nat.zero_add]
      · rw [zBF f (i+1) (fun j hj=>hl j (by omega)),hl i (by omega)]
    · rw [if_neg h2]
theorem zRS (f:Int→Nat) (i lo:Int) (c:Nat) (h:-10000≤i):zAe (sqL f lo) (max i lo) c=sqL (zAe f i c) lo:=by
  funext j
  show (if j=max i lo then sqL f lo j+c else sqL f lo j)=if j<lo then 0 else if j=lo then cum (zAe f i c) (lo+1) else zAe f i c j
  rw [zFX f i _ c h]
  unfold sqL zAe
  by_cases h1:j<lo
  · rw [if_pos h1,if_pos h1,if_neg (by omega)]
  · rw [if_neg h1,if_neg h1]
    by_cases h2:j=lo
    · rw [if_pos h2,if_pos h2]
      by_cases h3:i≤lo
      · rw [if_pos (by omega),if_pos (by omega)]
      · rw [if_neg (by omega),if_neg (by omega),Nat.add_zero]
    · rw [if_neg h2,if_neg h2]
      by_cases h3:j=i
      · rw [if_pos h3,if_pos (by omega)]
      · rw [if_neg h3,if_neg (by omega)]
end Go.Proofs.YtllaekopaglolaaGreat
end
/-
  What a dense store tells: TotalCount,MinIndex,MaxIndex,KeyAtRank.
-/
section
namespace Go.Proofs.YtllaekopaglolaaGreat
open Go.RowKit
set_option maxRecDepth 100000 in
theorem zH1 (p:Nat) (c:Value) (w:World) (h:w.cell? ⟨p,1,none⟩=some c) :
    Calls Tryz.prog 181 #[.pointer (some ⟨p,0,none⟩)] w fun e w'=>e = .returned c∧w'=w:=by
  go_enter Tryz.func181,Tryz.ntmps181
  go_wp2
  go_ret
  exact ⟨rfl,rfl⟩
end Go.Proofs.YtllaekopaglolaaGreat
end
/-
  KeyAtRank and Bins of a dense store.
-/
section
namespace Go.Proofs.YtllaekopaglolaaGreat
open Go.RowKit
def zB5 (f:Int→Nat) (r:Nat) (k:Int):Prop:=fgt2 (nf (cum f (k+1))) r=true∧∀ x,x<k→fgt2 (nf (cum f (x+1))) r=false
def nz (f:Int→Nat) (a:Int):Nat→List (Int × Nat)
  | 0=>[]
  | k+1=>nz f a k++if 0<f (a+(k:Int)) then [(a+(k:Int),f (a+(k:Int)))] else []
def zTa (f:Int→Nat) (r:Nat) (off:Int) (L:Nat) (w wr:World) (v i:Value):Prop :=
  ∃ k:Nat,k≤L∧i = .int .i64 (k:Int)∧v = .float .f64 (nf (cum f (off+k)))∧wr=w∧Hid (∀ x,x<off+k→fgt2 (nf (cum f (x+1))) r=false)
set_option maxRecDepth 100000 in
set_option maxHeartbeats 400000 in
theorem zOK (f:Int→Nat) (n r:Nat) (mn mx:Int) (p g L cp:Nat) (rest:List Value) (T:TypeId) (w:World) (h:zBW f (.float .f64 (nf n)) mn mx p g L cp rest T w)
   (hf:∀ i,i<mn∨mx<i→f i=0) (hn:n=tot2 f) (hs:n<9007199254740992) (hlo:-10000≤mn) (hhi:mx≤10000) (hL:L≤1000000)
   (hr0:(FloatKind.f64.format.order r 0 == some .lt)=false) (hr1:fgt2 (nf 0) r=false) (hr2:fgt2 (nf n) r=true) :
    Calls Tryz.prog 176 #[.pointer (some ⟨p,0,none⟩),.float .f64 r] w fun e w'=>(∃ k,e = .returned (.int .i64 k)∧zB5 f r k)∧w'=w:=by
  obtain ⟨off,hd,hr,o1,o2,o3,o4⟩:=h
  obtain ⟨d0,-,d2,-,-⟩:=hd.cells
  have HR:=Lib.hid hr
  have HF:=Lib.hid hf
  have HN:=Lib.hid hn
  have HS:=Lib.hid hs
  have HR1:=Lib.hid hr1
  have HR2:=Lib.hid hr2
  clear hd hr hf hn hs hr1 hr2
  go_enter Tryz.func176,Tryz.ntmps176
  go_wp2
  go_loopw [5,15] (fun v i wr=>zTa f r off L w wr v i) (fun _ i _=>L - (intOf i).toNat)
  case atStart =>
    refine ⟨0,Nat.zero_le _,rfl,?_,rfl,fun x hx=>?_⟩
    · rw [zBF f _ (fun i hi=>HF.out i (by omega)),zAp]
    · rw [zBF f _ (fun i hi=>HF.out i (by omega))]; exact HR1.out
  case round =>
    obtain ⟨k,hk,rfl,rfl,rfl,HK⟩:=hrel
    by_cases hlt:k<L
    · have hlt2:(k:Int)<(L:Int):=by omega
      have hcell:=HR.out.cell k hlt
      have hbig:Hid (off+(k:Int)<mn ∨ -10000≤off+(k:Int)):=by show _∨_; omega
      have hsum:cum f (off+(k:Int))+f (off+(k:Int))=cum f (off+((k+1:Nat):Int)):=by
        rw [show off+((k+1:Nat):Int)=off+(k:Int)+1 from by omega]
        rcases hbig.out with h | h
        · rw [HF.out _ (.inl h),zBF f _ (fun i hi=>HF.out i (by omega)),zBF f _ (fun i hi=>HF.out i (by omega))]
        · rw [zFU f _ h]
      have hle:cum f (off+((k+1:Nat):Int))≤tot2 f:=by
        by_cases h:off+((k+1:Nat):Int)≤10001
        · exact zCR f _ h
        · rw [zBv,zBM f 10001 _ (by omega) (fun i h1 _=>HF.out i (by omega))]; omega
      have hadd:=fun w:World=>run_float_arith (P:=Tryz.prog) w .add 29 .f64 _ _ _ (zAz (cum f (off+(k:Int))) (f (off+(k:Int))) (by have:=HN.out; have:=HS.out; omega))
      rw [hsum] at hadd
      obtain ⟨y,hy⟩:∃ y,y=nf (cum f (off+((k+1:Nat):Int))):=⟨_,rfl⟩
      rw [← hy] at hadd
      have HY:=Lib.hid hy
      have i1:IntKind.i64.wrap ((k:Int)+off)=(k:Int)+off:=by rw [IntKind.wrap_i64]; omega
      clear hy hsum hle hbig
      cases hc:(FloatKind.f64.format.order y r == some .gt)
      · have hrel':Hid (∀ x,x<off+((k+1:Nat):Int)→fgt2 (nf (cum f (x+1))) r=false):=by
          intro x hx
          by_cases hxk:x<off+(k:Int)
          · exact HK.out x hxk
          · have hc':fgt2 y r=false:=hc
            rw [HY.out] at hc'
            rw [show x+1=off+((k+1:Nat):Int) from by omega]
            exact hc'
        clear HK
        go_wp2
        go_roundw
        case rel=>exact ⟨k+1,by omega,by go_num,by rw [HY.out],rfl,hrel'.out⟩
        case measure=>simp [intOf]; omega
      · have hres:zB5 f r ((k:Int)+off):=by
          have hc':fgt2 y r=true:=hc
          refine ⟨?_,fun x hx=>HK.out x (by omega)⟩
          rw [show (k:Int)+off+1=off+((k+1:Nat):Int) from by omega,← HY.out]
          exact hc'
        have HRES:=Lib.hid hres
        clear HK HY hres
        go_wp2
        go_ret
        exact ⟨⟨_,rfl,HRES.out⟩,rfl⟩
    · exfalso
      obtain rfl:k=L:=by omega
      have h1:=HK.out (off+(k:Int) - 1) (by omega)
      rw [show off+(k:Int) - 1+1=off+(k:Int) from by omega] at h1
      have e1:cum f (off+(k:Int))=tot2 f:=by
        by_cases h:off+(k:Int)≤10001
        · exact (zKM f _ h (fun i hi=>HF.out i (by omega))).symm
        · rw [zBv,zBM f 10001 _ (by omega) (fun i h1 _=>HF.out i (by omega))]
      rw [e1,← HN.out,HR2.out] at h1
      cases h1
end Go.Proofs.YtllaekopaglolaaGreat
end
/-
  Bins of a dense store.
-/
section
namespace Go.Proofs.YtllaekopaglolaaGreat
open Go.RowKit
section
variable {P:Program}
end
theorem Tryz.infoStB:(Tryz.prog.info? 189).map (fun i=>(i.zero,i.size,i.bytes))=some (some (.agg #[.int .i64 0,.float .f64 0]),2,16):=by kernel_rfl
end Go.Proofs.YtllaekopaglolaaGreat
end
/-
  The sparse store: AddWithCount,IsEmpty,a new one.
-/
section
namespace Go.Proofs.YtllaekopaglolaaGreat
open Go.RowKit Go.Maps
def cntR:Value→Option (DataW Unit × List MemPlace)
  | .float .f64 b=>some (.lit (.int .u64 (b:Int)),[])
  | _=>none
theorem zOd {v:Value} {z:DataW Unit × List MemPlace} (h:cntR v=some z):∃ b:Nat,v = .float .f64 b∧z=(.lit (.int .u64 (b:Int)),[]):=by
  unfold cntR at h
  split at h
  · cases h; exact ⟨_,rfl,rfl⟩
  · cases h
theorem Tryz.keyed:Keyed Tryz.prog 3:=int_keyed Tryz.underlying3
theorem zSW {i:Int} (h1:-1000000≤i) (h2:i≤1000000):keyOf Tryz.prog 3 (.int .i64 i)=some (.int .i64 i) :=
  keyOf_int_mk Tryz.underlying3 (WalkArith.wf_i64 (by omega))
structure zHq (f:Int→Nat) (D:DataW Unit):Prop where
  isMap:IsMap D
  has:∀ i,Maps.has D (.int .i64 i)=decide (0<f i)
  at_:∀ i,0<f i→∀ z,D.atKey (.int .i64 i) z = .lit (.int .u64 ((nf (f i):Nat):Int))
structure zDY (f:Int→Nat) (p b k:Nat) (w:World):Prop where
  ptr:w.heap[p]?=some (.cells #[.map (some b)] 127 (0,0))
  own:∃ D,w.ownsMap Tryz.prog 3 cntR b k D∧zHq f D
  ne:p≠b
theorem zHq.start:zHq (fun _=>0) (.map []:DataW Unit) where
  isMap:=isMap_empty
  has:=fun _=>rfl
  at_:=fun _ h=>absurd h (Nat.lt_irrefl _)
theorem zHq.put {f:Int→Nat} {D:DataW Unit} (h:zHq f D) (i:Int) (c:Nat) (hc:0<c):zHq (zAe f i c) (D.put (.int .i64 i) (.lit (.int .u64 ((nf (f i+c):Nat):Int)))) where
  isMap:=h.isMap.put _ _
  has:=fun j=>by
    unfold zAe
    by_cases hj:j=i
    · subst hj
      rw [has_put_same h.isMap (show WideAt.IsKeyLit (.int .i64 j) from trivial),if_pos rfl,decide_eq_true (by omega)]
    · rw [has_put_other (by intro e; cases e; exact hj rfl),if_neg hj,h.has]
  at_:=fun j hp z=>by
    unfold zAe at hp ⊢
    by_cases hj:j=i
    · subst hj
      rw [atKey_put_same h.isMap (show WideAt.IsKeyLit (.int .i64 j) from trivial),if_pos rfl]
    · rw [if_neg hj] at hp ⊢
      rw [atKey_put_other (by intro e; cases e; exact hj rfl),h.at_ j hp]
theorem Tryz.zeroF (w:World):(zeroValue 29).run Tryz.prog w = .ok (.float .f64 0) w:=by kernel_rfl
theorem zGe {f:Int→Nat} {D:DataW Unit} {b k:Nat} {w:World} (ho:w.ownsMap Tryz.prog 3 cntR b k D) (hm:zHq f D) (i:Int) (h1:-1000000≤i) (h2:i≤1000000) :
    (Instr.lookup 125 (.map (some b)) (.int .i64 i) false).run Tryz.prog w = .ok (.float .f64 (nf (f i))) w:=by
  obtain ⟨v,ps,hr,hv⟩:=ho.lookup Tryz.keyed Tryz.underlying125 (Tryz.zeroF w) (zd:=.lit (.int .u64 0)) (zp:=[]) rfl (zSW h1 h2)
  obtain ⟨c,rfl,hc⟩:=zOd hv
  rw [hr]
  have e:c=nf (f i):=by
    by_cases hp:0<f i
    · rw [hm.at_ i hp] at hc
      simp at hc
      omega
    · rw [atKey_of_not_has (by rw [hm.has,decide_eq_false hp])] at hc
      simp at hc
      rw [show f i=0 from by omega,zAp]
      omega
  rw [e]
def zU9 (f:Int→Nat) (p b k:Nat) (w:World) (e:Ending) (w':World):Prop:=e = .returned (.tuple #[])∧zDY f p b k w'∧Fr (fun x=>x=b) w w'
set_option maxRecDepth 100000 in
set_option maxHeartbeats 400000 in
theorem zU3 (f:Int→Nat) (p b k:Nat) (i:Int) (c:Nat) (w:World) (h:zDY f p b k w) (hc0:0<c) (hs:f i+c<9007199254740992) (hk:k<1000000) (h1:-1000000≤i) (h2:i≤1000000) :
    Calls Tryz.prog 194 #[.pointer (some ⟨p,0,none⟩),.int .i64 i,.float .f64 (nf c)] w fun e w'=>zU9 (zAe f i c) p b (k+1) w e w':=by
  obtain ⟨hp,⟨D,ho,hm⟩,hne⟩:=h
  have d0:=cell_of_row _ _ 0 _ _ _ hp
  have hlook:=zGe ho hm i h1 h2
  have hz:=zES c hc0 (by omega)
  have hadd:=fun w:World=>run_float_arith (P:=Tryz.prog) w .add 29 .f64 _ _ _ (zAz (f i) c hs)
  have hput:=hm.put i c hc0
  have hkey:=zSW h1 h2
  obtain ⟨y,hy⟩:∃ y,y=nf c:=⟨_,rfl⟩
  obtain ⟨z,hzz⟩:∃ z,z=nf (f i+c):=⟨_,rfl⟩
  obtain ⟨x,hx⟩:∃ x,x=nf (f i):=⟨_,rfl⟩
  rw [← hzz] at hput
  rw [← hy] at hz hadd ⊢
  rw [← hx] at hlook hadd
  rw [← hzz] at hadd
  have HP:=Lib.hid hp
  have HPUT:=Lib.hid hput
  have HN:=Lib.hid hne
  clear hp hy hput hm hne hx hzz
  go_enter Tryz.func194,Tryz.ntmps194
  go_wp2_with (at_mapUpdate; refine wpList_mapUpdate_own _ rfl _ _ _ 125 rfl 3 29 Tryz.keyed Tryz.underlying125 cntR b k D rfl ho (by unfold maxLen; omega) _ _ _ rfl rfl hkey (.lit (.int .u64 (z:Int))) [] rfl ?_; intro w1 hown1 hgrow1)
  go_end0
  refine ⟨rfl,⟨?_,⟨_,hown1,HPUT.out⟩,HN.out⟩,?_⟩
  · exact (hgrow1.block p (lt_of_block HP.out) (by intro e; cases e; exact HN.out rfl)).trans HP.out
  · exact (Fr.refl _ w).grown hgrow1 (fun x hx _=>by cases hx; rfl)
set_option maxRecDepth 100000 in
theorem zUD (w:World):Calls Tryz.prog 55 #[] w fun e w'=>∃ p b,e = .returned (.pointer (some ⟨p,0,none⟩))∧zDY (fun _=>0) p b 0 w'∧w.heap.size≤p∧w.heap.size≤b∧Fr (fun _=>False) w w':=by
  have hmm:=@run_makeMap Tryz.prog
  go_enter Tryz.func55,Tryz.ntmps55
  go_wp2
  go_ret
  refine ⟨w.heap.size+1,w.heap.size,rfl,⟨?_,⟨.map [],(World.ownsMap_made w _ _ _).alloc _,zHq.start⟩,by omega⟩,by omega,Nat.le_refl _,((Fr.refl _ w).alloc _).alloc _⟩
  have h:=heap_alloc_new (w.alloc (.map #[] 0)) (.cells #[.map (some w.heap.size)] 127)
  rw [show (w.alloc (.map #[] 0)).heap.size=w.heap.size+1 from by simp] at h
  exact h
theorem zDm {key:Value} {kl:Lit} (h:keyOf Tryz.prog 3 key=some kl):∃ i:Int,key = .int .i64 i∧kl = .int .i64 i∧(Lit.int .i64 i).wf=true:=by
  cases key <;> simp [keyOf,Tryz.underlying3,mapKey] at h
  obtain ⟨⟨h1,h2⟩,h3⟩:=h
  subst h1
  exact ⟨_,rfl,h3.symm,h2⟩
theorem zRW {f:Int→Nat} {D:DataW Unit} {b k:Nat} {w:World} (ho:w.ownsMap Tryz.prog 3 cntR b k D) (hm:zHq f D):Maps.size D=0↔∀ i,f i=0:=by
  obtain ⟨es,rfl,hk⟩:=ho.keysOf
  constructor
  · intro h i
    rw [size_eq] at h
    have:es=[]:=List.eq_nil_of_length_eq_zero h
    subst this
    have h2:=hm.has i
    have h3:Maps.has (.map []:DataW Unit) (.int .i64 i)=false:=rfl
    rw [h3] at h2
    have:=of_decide_eq_false h2.symm
    omega
  · intro h
    cases es with
    | nil=>rfl
    | cons p t =>
      obtain ⟨key,hkey⟩:=hk p (List.mem_cons_self ..)
      obtain ⟨i,_,hi,_⟩:=zDm hkey
      have h2:=hm.has i
      rw [h i,has_eq,List.any_cons,hi] at h2
      simp [Lit.sameKey] at h2
set_option maxRecDepth 100000 in
theorem zJo (f:Int→Nat) (p b k:Nat) (w:World) (h:zDY f p b k w) :
    Calls Tryz.prog 201 #[.pointer (some ⟨p,0,none⟩)] w fun e w'=>(∃ B,e = .returned (.bool B)∧(B=true↔∀ i,f i=0))∧w'=w:=by
  obtain ⟨hp,⟨D,ho,hm⟩,hne⟩:=h
  have d0:=cell_of_row _ _ 0 _ _ _ hp
  have HM:=Lib.hid hm
  have HO:=Lib.hid ho
  clear hp hm
  go_enter Tryz.func201,Tryz.ntmps201
  go_wp2_with (at_len; refine wpList_len_own _ rfl _ 125 rfl 3 29 Tryz.underlying125 cntR b k D rfl ho ?_)
  go_ret
  refine ⟨⟨_,rfl,?_⟩,rfl⟩
  rw [← zRW HO.out HM.out]
  simp
end Go.Proofs.YtllaekopaglolaaGreat
end
/-
  The library's sort of ints: its contracts at this program,laid by the kit's tool (lay-shelf,then lay-plain).
-/
section
namespace Go.Proofs
open Go.Shelf
def Tryz.lays189_ren:Go.Shelf.Ren:=⟨fun | 189=>211 | 125=>215 | 257=>214 | 128=>226 | 129=>227 | 294=>217 | 295=>218 | 296=>219 | 297=>220 | 298=>221 | 299=>222 | 216=>223 | 300=>224 | 301=>225 | 328=>236 | 329=>237 | 330=>238 | 331=>239 | 332=>240 | 215=>241 | 343=>245 | n=>n,fun | 28=>128 | 3=>3 | 46=>82 | 0=>0 | 51=>160 | 53=>42 | 4=>4 | 183=>200 | 182=>199 | 131=>205 | 5=>5 | 9=>9 | 218=>214 | 222=>218 | 228=>223 | 229=>224 | n=>n,fun | n=>n⟩
theorem Tryz.lays189:Go.Proofs.Lays.n189 Tryz.prog Tryz.lays189_ren:={
  mixed:=by kernel_rfl
  f125:=Tryz.func215.trans (congrArg some (by kernel_rfl))
  f128:=Tryz.func226.trans (congrArg some (by kernel_rfl))
  f129:=Tryz.func227.trans (congrArg some (by kernel_rfl))
  f189:=Tryz.func211.trans (congrArg some (by kernel_rfl))
  f215:=Tryz.func241.trans (congrArg some (by kernel_rfl))
  f216:=Tryz.func223.trans (congrArg some (by kernel_rfl))
  f257:=Tryz.func214.trans (congrArg some (by kernel_rfl))
  f294:=Tryz.func217.trans (congrArg some (by kernel_rfl))
  f295:=Tryz.func218.trans (congrArg some (by kernel_rfl))
  f296:=Tryz.func219.trans (congrArg some (by kernel_rfl))
  f297:=Tryz.func220.trans (congrArg some (by kernel_rfl))
  f298:=Tryz.func221.trans (congrArg some (by kernel_rfl))
  f299:=Tryz.func222.trans (congrArg some (by kernel_rfl))
  f300:=Tryz.func224.trans (congrArg some (by kernel_rfl))
  f301:=Tryz.func225.trans (congrArg some (by kernel_rfl))
  f328:=Tryz.func236.trans (congrArg some (by kernel_rfl))
  f329:=Tryz.func237.trans (congrArg some (by kernel_rfl))
  f330:=Tryz.func238.trans (congrArg some (by kernel_rfl))
  f331:=Tryz.func239.trans (congrArg some (by kernel_rfl))
  f332:=Tryz.func240.trans (congrArg some (by kernel_rfl))
  f343:=Tryz.func245.trans (congrArg some (by kernel_rfl))
  t0:=Tryz.underlying0
  a0:=Tryz.isAgg0
  z0:=Tryz.sizeOf0
  v0:=Tryz.zeroValue0
  t3:=Tryz.underlying3
  a3:=Tryz.isAgg3
  z3:=Tryz.sizeOf3
  v3:=Tryz.zeroValue3
  t4:=Tryz.underlying4
  a4:=Tryz.isAgg4
  z4:=Tryz.sizeOf4
  v4:=Tryz.zeroValue4
  t5:=Tryz.underlying5
  a5:=Tryz.isAgg5
  z5:=Tryz.sizeOf5
  v5:=Tryz.zeroValue5
  t9:=Tryz.underlying9
  a9:=Tryz.isAgg9
  z9:=Tryz.sizeOf9
  v9:=Tryz.zeroValue9
  t28:=Tryz.underlying128
  a28:=Tryz.isAgg128
  z28:=Tryz.sizeOf128
  v28:=Tryz.zeroValue128
  t46:=Tryz.underlying82
  a46:=Tryz.isAgg82
  z46:=Tryz.sizeOf82
  v46:=Tryz.zeroValue82
  t51:=Tryz.underlying160
  a51:=Tryz.isAgg160
  z51:=Tryz.sizeOf160
  v51:=Tryz.zeroValue160
  t53:=Tryz.underlying42
  a53:=Tryz.isAgg42
  z53:=Tryz.sizeOf42
  v53:=Tryz.zeroValue42
  t131:=Tryz.underlying205
  a131:=Tryz.isAgg205
  z131:=Tryz.sizeOf205
  v131:=Tryz.zeroValue205
  t182:=Tryz.underlying199
  a182:=Tryz.isAgg199
  z182:=Tryz.sizeOf199
  v182:=Tryz.zeroValue199
  t183:=Tryz.underlying200
  a183:=Tryz.isAgg200
  z183:=Tryz.sizeOf200
  v183:=Tryz.zeroValue200
  t218:=Tryz.underlying214
  a218:=Tryz.isAgg214
  z218:=Tryz.sizeOf214
  v218:=Tryz.zeroValue214
  t222:=Tryz.underlying218
  a222:=Tryz.isAgg218
  z222:=Tryz.sizeOf218
  v222:=Tryz.zeroValue218
  t228:=Tryz.underlying223
  a228:=Tryz.isAgg223
  z228:=Tryz.sizeOf223
  v228:=Tryz.zeroValue223
  t229:=Tryz.underlying224
  a229:=Tryz.isAgg224
  z229:=Tryz.sizeOf224
  v229:=Tryz.zeroValue224 }
open Go.Sort Go.RowKit in
theorem Tryz.slices_Sort_int (blk off cap:Nat) (zs:List Int) (w:World) (hH:Holds (Value.int .i64) w blk off zs.toArray) (hblk:blk<w.heap.size) (hsz:zs.length<4611686018427387904) :
    Calls Tryz.prog 211 #[.slice (some ⟨blk,off,none⟩) zs.length cap] w fun e w' =>
      e = .returned (.tuple #[])∧∃ n os,w'=grow (putRow (Value.int .i64) (Sort.ahead w n) blk off (zs.mergeSort fun x y=>decide (x≤y)).toArray) os:=Any.slices_Sort_int Tryz.lays189 blk off cap zs w hH hblk hsz
def Tryz.lays191_ren:Go.Shelf.Ren:=⟨fun | 191=>273 | 189=>211 | 125=>215 | 257=>214 | 128=>226 | 129=>227 | 294=>217 | 295=>218 | 296=>219 | 297=>220 | 298=>221 | 299=>222 | 216=>223 | 300=>224 | 301=>225 | 328=>236 | 329=>237 | 330=>238 | 331=>239 | 332=>240 | 215=>241 | 343=>245 | n=>n,fun | 28=>128 | 0=>0 | 3=>3 | 46=>82 | 51=>160 | 53=>42 | 4=>4 | 183=>200 | 182=>199 | 131=>205 | 5=>5 | 9=>9 | 218=>214 | 222=>218 | 228=>223 | 229=>224 | n=>n,fun | n=>n⟩
theorem Tryz.lays191:Go.Proofs.Lays.n191 Tryz.prog Tryz.lays191_ren:={
  mixed:=by kernel_rfl
  f125:=Tryz.func215.trans (congrArg some (by kernel_rfl))
  f128:=Tryz.func226.trans (congrArg some (by kernel_rfl))
  f129:=Tryz.func227.trans (congrArg some (by kernel_rfl))
  f189:=Tryz.func211.trans (congrArg some (by kernel_rfl))
  f191:=Tryz.func273.trans (congrArg some (by kernel_rfl))
  f215:=Tryz.func241.trans (congrArg some (by kernel_rfl))
  f216:=Tryz.func223.trans (congrArg some (by kernel_rfl))
  f257:=Tryz.func214.trans (congrArg some (by kernel_rfl))
  f294:=Tryz.func217.trans (congrArg some (by kernel_rfl))
  f295:=Tryz.func218.trans (congrArg some (by kernel_rfl))
  f296:=Tryz.func219.trans (congrArg some (by kernel_rfl))
  f297:=Tryz.func220.trans (congrArg some (by kernel_rfl))
  f298:=Tryz.func221.trans (congrArg some (by kernel_rfl))
  f299:=Tryz.func222.trans (congrArg some (by kernel_rfl))
  f300:=Tryz.func224.trans (congrArg some (by kernel_rfl))
  f301:=Tryz.func225.trans (congrArg some (by kernel_rfl))
  f328:=Tryz.func236.trans (congrArg some (by kernel_rfl))
  f329:=Tryz.func237.trans (congrArg some (by kernel_rfl))
  f330:=Tryz.func238.trans (congrArg some (by kernel_rfl))
  f331:=Tryz.func239.trans (congrArg some (by kernel_rfl))
  f332:=Tryz.func240.trans (congrArg some (by kernel_rfl))
  f343:=Tryz.func245.trans (congrArg some (by kernel_rfl))
  t0:=Tryz.underlying0
  a0:=Tryz.isAgg0
  z0:=Tryz.sizeOf0
  v0:=Tryz.zeroValue0
  t3:=Tryz.underlying3
  a3:=Tryz.isAgg3
  z3:=Tryz.sizeOf3
  v3:=Tryz.zeroValue3
  t4:=Tryz.underlying4
  a4:=Tryz.isAgg4
  z4:=Tryz.sizeOf4
  v4:=Tryz.zeroValue4
  t5:=Tryz.underlying5
  a5:=Tryz.isAgg5
  z5:=Tryz.sizeOf5
  v5:=Tryz.zeroValue5
  t9:=Tryz.underlying9
  a9:=Tryz.isAgg9
  z9:=Tryz.sizeOf9
  v9:=Tryz.zeroValue9
  t28:=Tryz.underlying128
  a28:=Tryz.isAgg128
  z28:=Tryz.sizeOf128
  v28:=Tryz.zeroValue128
  t46:=Tryz.underlying82
  a46:=Tryz.isAgg82
  z46:=Tryz.sizeOf82
  v46:=Tryz.zeroValue82
  t51:=Tryz.underlying160
  a51:=Tryz.isAgg160
  z51:=Tryz.sizeOf160
  v51:=Tryz.zeroValue160
  t53:=Tryz.underlying42
  a53:=Tryz.isAgg42
  z53:=Tryz.sizeOf42
  v53:=Tryz.zeroValue42
  t131:=Tryz.underlying205
  a131:=Tryz.isAgg205
  z131:=Tryz.sizeOf205
  v131:=Tryz.zeroValue205
  t182:=Tryz.underlying199
  a182:=Tryz.isAgg199
  z182:=Tryz.sizeOf199
  v182:=Tryz.zeroValue199
  t183:=Tryz.underlying200
  a183:=Tryz.isAgg200
  z183:=Tryz.sizeOf200
  v183:=Tryz.zeroValue200
  t218:=Tryz.underlying214
  a218:=Tryz.isAgg214
  z218:=Tryz.sizeOf214
  v218:=Tryz.zeroValue214
  t222:=Tryz.underlying218
  a222:=Tryz.isAgg218
  z222:=Tryz.sizeOf218
  v222:=Tryz.zeroValue218
  t228:=Tryz.underlying223
  a228:=Tryz.isAgg223
  z228:=Tryz.sizeOf223
  v228:=Tryz.zeroValue223
  t229:=Tryz.underlying224
  a229:=Tryz.isAgg224
  z229:=Tryz.sizeOf224
  v229:=Tryz.zeroValue224 }
open Go.Sort Go.RowKit in
theorem Tryz.sort_Ints (blk off cap:Nat) (zs:List Int) (w:World) (hH:Holds (Value.int .i64) w blk off zs.toArray) (hblk:blk<w.heap.size) (hsz:zs.length<4611686018427387904) :
    Calls Tryz.prog 273 #[.slice (some ⟨blk,off,none⟩) zs.length cap] w fun e w' =>
      e = .returned (.tuple #[])∧∃ n os,w'=grow (putRow (Value.int .i64) (Sort.ahead w n) blk off (zs.mergeSort fun x y=>decide (x≤y)).toArray) os:=Any.sort_Ints Tryz.lays191 blk off cap zs w hH hblk hsz
open Go.RowKit Go.Sort in
theorem Tryz.slices_Sort_int_none (p:Option Addr) (cap:Nat) (w:World) :
    Calls Tryz.prog 211 #[.slice p 0 cap] w fun e w'=>e = .returned (.tuple #[])∧w'=w:=Any.slices_Sort_int_none Tryz.lays189 p cap w
open Go.RowKit Go.Sort in
theorem Tryz.sort_Ints_none (p:Option Addr) (cap:Nat) (w:World) :
    Calls Tryz.prog 273 #[.slice p 0 cap] w fun e w'=>e = .returned (.tuple #[])∧w'=w:=Any.sort_Ints_none Tryz.lays191 p cap w
end Go.Proofs
end
