/-
  FnQuantilesMerged,whatever the mapping,the accuracy,the stores,the items of both sketches and the quantiles: the call returns true,and the arguments read as they did. No condition.
-/
import Derived.Test.YtllaekopaglolaaGreatRows
import Derived.Test.YtllaekopaglolaaGreatHBV
import Derived.ProofKit
import Derived.OpenShut
section
namespace Go.Proofs.YtllaekopaglolaaGreat
open Go.ChangeShapes Go.WideShapes Go.ChangeAt Go.RowKit
theorem Tryz.own:ownKnob Tryz.prog.godebug=none:=by kernel_rfl
theorem Tryz.laidOut:laidOutB Tryz.prog=true:=by kernel_rfl
section
variable {H:Type} {enc:TypeId × Value→H} {P:Program} {w:World} {base:Nat} {spare:Nat→Bool} {held:Bool}
theorem zKL {t0 t1 t2 t3 t4 t5:TypeId} {args:Array Value} {ds:List (DataW H)} {ps:List MemPlace} (h:DataW.TrodAll enc P w base spare held [t0,t1,t2,t3,t4,t5] args.toList ds ps) :
    ∃ v0 v1 v2 v3 v4 v5 d0 d1 d2 d3 d4 d5 p0 p1 p2 p3 p4 p5,args = #[v0,v1,v2,v3,v4,v5]∧ds=[d0,d1,d2,d3,d4,d5]∧ps=p0++(p1++(p2++(p3++(p4++p5)))) ∧
      DataW.Trod enc P w base spare held t0 v0 d0 p0∧DataW.Trod enc P w base spare held t1 v1 d1 p1∧DataW.Trod enc P w base spare held t2 v2 d2 p2∧DataW.Trod enc P w base spare held t3 v3 d3 p3∧DataW.Trod enc P w base spare held t4 v4 d4 p4∧DataW.Trod enc P w base spare held t5 v5 d5 p5:=by
  obtain ⟨v0,vs0,d0,ds0,p0,q0,hargs,rfl,rfl,h0,r0⟩:=trodAll_cons h
  obtain ⟨v1,vs1,d1,ds1,p1,q1,rfl,rfl,rfl,h1,r1⟩:=trodAll_cons r0
  obtain ⟨v2,vs2,d2,ds2,p2,q2,rfl,rfl,rfl,h2,r2⟩:=trodAll_cons r1
  obtain ⟨v3,vs3,d3,ds3,p3,q3,rfl,rfl,rfl,h3,r3⟩:=trodAll_cons r2
  obtain ⟨v4,vs4,d4,ds4,p4,q4,rfl,rfl,rfl,h4,r4⟩:=trodAll_cons r3
  obtain ⟨v5,vs5,d5,ds5,p5,q5,rfl,rfl,rfl,h5,r5⟩:=trodAll_cons r4
  obtain ⟨rfl,rfl,rfl⟩:=trodAll_nil r5
  exact ⟨v0,v1,v2,v3,v4,v5,d0,d1,d2,d3,d4,d5,p0,p1,p2,p3,p4,p5,by cases args; simp_all,rfl,by simp,h0,h1,h2,h3,h4,h5⟩
end
set_option maxRecDepth 100000 in
theorem zDR (os:Os) (started:os.Started) (H:Type) (enc:TypeId × Value→H) :
    ReturnsInHanded {} Tryz.checked os 4 .any (Rows.fnQuantilesMergedSpec.pre6 enc Tryz.prog Tryz.f4 Rows.fnQuantilesMergedRow.domain false) (Rows.fnQuantilesMergedSpec.post enc Tryz.prog Tryz.f4 false true false false):=by
  refine returnsInHanded_of_change (C:=Tryz.checked) Tryz.own started (by kernel_rfl) Tryz.func4
    (ChangeSpec.witness6 (enc:=enc) (C:=Tryz.checked) false ⟨#[],#[.int .i64 0,.int .i64 0,.int .i64 0,.slice none 0 0,.slice none 0 0,.slice none 0 0],[]⟩ 8 (by kernel_rfl) (by kernel_rfl) (by kernel_rfl) (by kernel_rfl)) ?_
  intro W base args ds gs before hval0 hW hcnd _
  have hval:∀ (j:Nat) t v,Tryz.f4.params[j]?=some t→args[j]?=some v→Value.okWide Tryz.prog W .any base t v:=hval0
  have hW':=hW
  obtain ⟨p,q,hA0,hV,rfl,hfz,hnd⟩:=hW
  have hA:DataW.TrodAll enc Tryz.prog W 0 (fun _=>true) true Tryz.f4.params.toList args.toList ds p:=hA0
  rw [Tryz.params4] at hA hval
  obtain ⟨v0,v1,v2,v3,v4,v5,d0,d1,d2,d3,d4,d5,p0,p1,p2,p3,p4,p5,rfl,rfl,rfl,h0,h1,h2,h3,h4,h5⟩:=zKL hA
  obtain ⟨rfl,rfl⟩:=trodVars_none hV
  obtain ⟨a,rfl,rfl,rfl,wa⟩:=open_int Tryz.underlying3 (hval 0 3 v0 rfl rfl) h0
  obtain ⟨b,rfl,rfl,rfl,wb⟩:=open_int Tryz.underlying3 (hval 1 3 v1 rfl rfl) h1
  obtain ⟨c,rfl,rfl,rfl,wc⟩:=open_int Tryz.underlying3 (hval 2 3 v2 rfl rfl) h2
  obtain ⟨ao,len,cap,rfl⟩:=okWide_slice Tryz.underlying22 (hval 3 22 v3 rfl rfl)
  obtain ⟨ar,len1,cap1,rfl⟩:=okWide_slice Tryz.underlying22 (hval 4 22 v4 rfl rfl)
  obtain ⟨ap,len2,cap2,rfl⟩:=okWide_slice Tryz.underlying23 (hval 5 23 v5 rfl rfl)
  obtain ⟨ps,rfl,hl,hbits⟩:=zIA Tryz.underlying22 Tryz.underlying37 (by kernel_rfl) rfl rfl (by kernel_rfl) (by kernel_rfl) Tryz.underlying29 Tryz.underlying29 h3
  obtain ⟨rs,rfl,hl1,hbits1⟩:=zIA Tryz.underlying22 Tryz.underlying37 (by kernel_rfl) rfl rfl (by kernel_rfl) (by kernel_rfl) Tryz.underlying29 Tryz.underlying29 h4
  obtain ⟨qs,rfl,hl2,hbits2⟩:=zVt Tryz.underlying23 Tryz.underlying29 (by kernel_rfl) h5
  have hlt:∀ x∈p3++(p4++p5),x.block<W.heap.size:=fun x hx=>by
    refine hW'.lt x ?_
    simpa using hx
  clear hA0 hval0
  simp only [List.append_nil,List.nil_append] at hW'
  refine (zEG a b c ao ar ap cap cap1 cap2 ps rs qs W hl hl1 hl2 hbits hbits1 hbits2).mono fun e W' ⟨he,hg⟩=>?_
  subst he
  have hargs:∀ sp:Nat→Bool,(∀ p∈p3++(p4++p5),sp p.block=true)→DataW.TrodAll enc Tryz.prog W' 0 sp true [3,3,3,22,22,23] [.int .i64 a,.int .i64 b,.int .i64 c,.slice ao ps.length cap,.slice ar rs.length cap1,.slice ap qs.length cap2] [.lit (.int .i64 a),.lit (.int .i64 b),.lit (.int .i64 c),d3,d4,d5] (p3++(p4++p5)):=by
    intro sp hsp
    have e3:=WideElems.Trod_stays Tryz.laidOut (by kernel_rfl) (of_decide_eq_true (by kernel_rfl)) h3 (fun x hx=>hg.same (hlt x (List.mem_append_left _ hx))) (fun x hx=>hsp x (List.mem_append_left _ hx))
    have e4:=WideElems.Trod_stays Tryz.laidOut (by kernel_rfl) (of_decide_eq_true (by kernel_rfl)) h4 (fun x hx=>hg.same (hlt x (List.mem_append_right _ (List.mem_append_left _ hx)))) (fun x hx=>hsp x (List.mem_append_right _ (List.mem_append_left _ hx)))
    have e5:=WideElems.Trod_stays Tryz.laidOut (by kernel_rfl) (of_decide_eq_true (by kernel_rfl)) h5 (fun x hx=>hg.same (hlt x (List.mem_append_right _ (List.mem_append_right _ hx)))) (fun x hx=>hsp x (List.mem_append_right _ (List.mem_append_right _ hx)))
    have h6:DataW.TrodAll enc Tryz.prog W' 0 sp true [3,3,3,22,22,23] [.int .i64 a,.int .i64 b,.int .i64 c,.slice ao ps.length cap,.slice ar rs.length cap1,.slice ap qs.length cap2] [.lit (.int .i64 a),.lit (.int .i64 b),.lit (.int .i64 c),d3,d4,d5] ([]++([]++([]++(p3++(p4++p5))))) :=
      ⟨_,_,shut_int Tryz.underlying3 wa,⟨_,_,shut_int Tryz.underlying3 wb,trodAll_mk4 (shut_int Tryz.underlying3 wc) e3 e4 e5,rfl⟩,rfl⟩
    simpa using h6
  exact ⟨_,rfl,zIg (pa:=p3++(p4++p5)) (pv:=[]) hW' (fun _ _ _=>trodAll_mk1 (shut_bool Tryz.underlying4 _)) (fun sp hsp=>hargs sp hsp) (fun _ _=>rfl) (by simp) hg
    (ok_one (by kernel_rfl) rfl (okWide_bool_mk Tryz.underlying4 _))⟩
theorem fnQuantilesMerged_holds:Rows.FnQuantilesMergedSaid :=
  OpenClaim.holds_of_wide 4 Tryz.f4 rfl rfl rfl rfl rfl rfl rfl ⟨rfl,rfl,rfl,rfl,rfl⟩ rfl rfl rfl rfl rfl (by kernel_rfl) Tryz.func4 (by kernel_rfl)
    (of_decide_eq_true (by kernel_rfl)) (by unfold Func.isWrapper; first | (rw [if_pos (by decide +kernel)]; kernel_rfl) | (rw [if_neg (by decide +kernel)]; exact ⟨rfl,rfl⟩))
    (fun os started H enc _=>zDR os started H enc)
#print axioms fnQuantilesMerged_holds
end Go.Proofs.YtllaekopaglolaaGreat
end
