/-
  FnStore, whatever the kind, the greatest number of bins and the bins: the call returns true, and the arguments read as they did. No condition.
-/
import Derived.Test.YtnmbjalojgccmaaGreatRows
import Derived.Test.YtnmbjalojgccmaaGreatTH
import Derived.Test.YtnmbjalojgccmaaGreatTI
import Derived.ProofKit
import Derived.OpenShut
section
namespace Go.Proofs.YtnmbjalojgccmaaGreat
open Go.ChangeShapes Go.WideShapes Go.ChangeAt Go.RowKit

theorem Tryz.own : ownKnob Tryz.prog.godebug = none := by kernel_rfl
theorem Tryz.laidOut : laidOutB Tryz.prog = true := by kernel_rfl

set_option maxRecDepth 100000 in
theorem fnStore_lifted (os : Os) (started : os.Started) (H : Type) (enc : TypeId × Value → H) :
    ReturnsInHanded {} Tryz.checked os 4 .any (Rows.fnStoreSpec.pre6 enc Tryz.prog Tryz.f4 Rows.fnStoreRow.domain false) (Rows.fnStoreSpec.post enc Tryz.prog Tryz.f4 false true false false) := by
  refine returnsInHanded_of_change (C := Tryz.checked) Tryz.own started (by kernel_rfl) Tryz.func4
    (ChangeSpec.witness6 (enc := enc) (C := Tryz.checked) false ⟨#[], #[.int .i64 0, .int .i64 0, .slice none 0 0], []⟩ 8 (by kernel_rfl) (by kernel_rfl) (by kernel_rfl) (by kernel_rfl)) ?_
  intro W base args ds gs before hval0 hW hcnd _
  have hval : ∀ (j : Nat) t v, Tryz.f4.params[j]? = some t → args[j]? = some v → Value.okWide Tryz.prog W .any base t v := hval0
  have hW' := hW
  obtain ⟨p, q, hA0, hV, rfl, hfz, hnd⟩ := hW
  have hA : DataW.TrodAll enc Tryz.prog W 0 (fun _ => true) true Tryz.f4.params.toList args.toList ds p := hA0
  rw [Tryz.params4] at hA hval
  obtain ⟨v0, v1, v2, d0, d1, d2, p0, p1, p2, rfl, rfl, rfl, h0, h1, h2⟩ := trodAll_three hA
  obtain ⟨rfl, rfl⟩ := trodVars_none hV
  obtain ⟨a, rfl, rfl, rfl, wa⟩ := open_int Tryz.underlying3 (hval 0 3 v0 rfl rfl) h0
  obtain ⟨b, rfl, rfl, rfl, wb⟩ := open_int Tryz.underlying3 (hval 1 3 v1 rfl rfl) h1
  obtain ⟨ao, len, cap, rfl⟩ := okWide_slice Tryz.underlying22 (hval 2 22 v2 rfl rfl)
  obtain ⟨ps, rfl, hl, hbits⟩ := open_bins Tryz.underlying22 Tryz.underlying62 (by kernel_rfl) rfl rfl (by kernel_rfl) (by kernel_rfl) Tryz.underlying3 Tryz.underlying30 h2
  have hlt : ∀ x ∈ p2, x.block < W.heap.size := fun x hx => by
    refine hW'.lt x ?_
    simpa using hx
  clear hA0 hval0
  simp only [List.append_nil, List.nil_append] at hW'
  refine (fnStore_any a b ao cap ps W hl hbits).mono fun e W' ⟨he, hg⟩ => ?_
  subst he
  have hargs : ∀ sp : Nat → Bool, (∀ p ∈ p2, sp p.block = true) → DataW.TrodAll enc Tryz.prog W' 0 sp true [3, 3, 22] [.int .i64 a, .int .i64 b, .slice ao ps.length cap] [.lit (.int .i64 a), .lit (.int .i64 b), d2] p2 := by
    intro sp hsp
    have e2 := WideElems.Trod_stays Tryz.laidOut (by kernel_rfl) (of_decide_eq_true (by kernel_rfl)) h2 (fun x hx => hg.same (hlt x hx)) (fun x hx => hsp x hx)
    exact trodAll_mk3 (shut_int Tryz.underlying3 wa) (shut_int Tryz.underlying3 wb) e2
  exact ⟨_, rfl, post_of_below (pa := p2) (pv := []) hW' (fun _ _ _ => trodAll_mk1 (shut_bool Tryz.underlying4 _)) (fun sp hsp => hargs sp hsp) (fun _ _ => rfl) (by simp) hg
    (ok_one (by kernel_rfl) rfl (okWide_bool_mk Tryz.underlying4 _))⟩

theorem fnStore_holds : Rows.FnStoreSaid :=
  OpenClaim.holds_of_wide 4 Tryz.f4 rfl rfl rfl rfl rfl rfl rfl ⟨rfl, rfl, rfl, rfl, rfl⟩ rfl rfl rfl rfl rfl (by kernel_rfl) Tryz.func4 (by kernel_rfl)
    (of_decide_eq_true (by kernel_rfl)) (by unfold Func.isWrapper; first | (rw [if_pos (by decide +kernel)]; kernel_rfl) | (rw [if_neg (by decide +kernel)]; exact ⟨rfl, rfl⟩))
    (fun os started H enc _ => fnStore_lifted os started H enc)
#print axioms fnStore_holds
end Go.Proofs.YtnmbjalojgccmaaGreat
end
