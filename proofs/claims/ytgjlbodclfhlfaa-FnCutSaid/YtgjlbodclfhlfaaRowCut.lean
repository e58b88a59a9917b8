/-
  FnCut, for every number and every float: the call returns true, and the arguments read as they did. No condition.
-/
import Derived.Test.YtgjlbodclfhlfaaRows
import Derived.Test.YtgjlbodclfhlfaaLawCut
import Derived.Test.YtgjlbodclfhlfaaPost
import Derived.ProofKit
import Derived.OpenShut
namespace Go.Proofs.Ytgjlbodclfhlfaa
open Go.ChangeShapes Go.WideShapes Go.ChangeAt Go.RowKit

theorem Try.own : ownKnob Try.prog.godebug = none := by kernel_rfl

theorem fnCut_any (n : Int) (fb : Nat) (wn : (Lit.int .u64 n).wf = true) (w : World) :
    Calls Try.prog 3 #[.int .u64 n, .float .f64 fb] w fun e w' => IsTrue w e w' := by
  have hb : 0 ≤ n ∧ n < 18446744073709551616 := by have h := bounds_u64 wn; omega
  obtain ⟨k, rfl⟩ : ∃ k : Nat, n = k := ⟨n.toNat, by omega⟩
  cases h1 : (FloatKind.f64.format.order fb 0 == some .gt || FloatKind.f64.format.order fb 0 == some .eq)
  · exact fnCut_out k fb w (by rw [h1]; rfl)
  · cases h2 : (FloatKind.f64.format.order fb 4841369599423283200 == some .lt || FloatKind.f64.format.order fb 4841369599423283200 == some .eq)
    · exact fnCut_out k fb w (by rw [h1, h2]; rfl)
    · exact fnCut_in k fb w (by omega) h1 h2

set_option maxRecDepth 100000 in
theorem fnCut_lifted (os : Os) (started : os.Started) (H : Type) (enc : TypeId × Value → H) :
    ReturnsInHanded {} Try.checked os 3 .any (Rows.fnCutSpec.pre6 enc Try.prog Try.f3 Rows.fnCutRow.domain false) (Rows.fnCutSpec.post enc Try.prog Try.f3 false true false false) := by
  refine returnsInHanded_of_change (C := Try.checked) Try.own started (by kernel_rfl) Try.func3
    (ChangeSpec.witness6 (enc := enc) (C := Try.checked) false ⟨#[], #[.int .u64 0, .float .f64 0], []⟩ 8 (by kernel_rfl) (by kernel_rfl) (by kernel_rfl) (by kernel_rfl)) ?_
  intro W base args ds gs before hval0 hW hcnd _
  have hval : ∀ (j : Nat) t v, Try.f3.params[j]? = some t → args[j]? = some v → Value.okWide Try.prog W .any base t v := hval0
  have hW' := hW
  obtain ⟨p, q, hA0, hV, rfl, hfz, hnd⟩ := hW
  have hA : DataW.TrodAll enc Try.prog W 0 (fun _ => true) true Try.f3.params.toList args.toList ds p := hA0
  rw [Try.params3] at hA hval
  obtain ⟨v0, v1, d0, d1, p0, p1, rfl, rfl, rfl, h0, h1⟩ := trodAll_two hA
  obtain ⟨rfl, rfl⟩ := trodVars_none hV
  obtain ⟨a, rfl, rfl, rfl, wa⟩ := open_int Try.underlying22 (hval 0 22 v0 rfl rfl) h0
  obtain ⟨b, rfl, rfl, rfl, wb⟩ := open_float Try.underlying23 (hval 1 23 v1 rfl rfl) h1
  clear hA0 hval0
  simp only [List.append_nil] at hW'
  refine (fnCut_any a b wa W).mono fun e W' ⟨he, hg⟩ => ?_
  subst he
  exact ⟨_, rfl, post_of_below (pa := []) (pv := []) hW' (fun _ _ _ => trodAll_mk1 (shut_bool Try.underlying4 _)) (fun sp _ => trodAll_mk2 (shut_int Try.underlying22 wa) (shut_float Try.underlying23 wb)) (fun _ _ => rfl) rfl hg
    (ok_one (by kernel_rfl) rfl (okWide_bool_mk Try.underlying4 _))⟩

theorem fnCut_holds : Rows.FnCutSaid :=
  OpenClaim.holds_of_wide 3 Try.f3 rfl rfl rfl rfl rfl rfl rfl ⟨rfl, rfl, rfl, rfl, rfl⟩ rfl rfl rfl rfl rfl (by kernel_rfl) Try.func3 (by kernel_rfl)
    (of_decide_eq_true (by kernel_rfl)) (by unfold Func.isWrapper; first | (rw [if_pos (by decide +kernel)]; kernel_rfl) | (rw [if_neg (by decide +kernel)]; exact ⟨rfl, rfl⟩))
    (fun os started H enc _ => fnCut_lifted os started H enc)
#print axioms fnCut_holds
end Go.Proofs.Ytgjlbodclfhlfaa
