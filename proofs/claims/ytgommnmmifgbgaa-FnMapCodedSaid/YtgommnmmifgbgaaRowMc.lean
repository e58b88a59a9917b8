/-
  FnMapCoded, for every kind and every percent: the call returns true, and the arguments read as they did. No condition.
-/
import Derived.Test.YtgommnmmifgbgaaRows
import Derived.Test.YtgommnmmifgbgaaMapLaw
import Derived.Test.YtgommnmmifgbgaaMapCkL
import Derived.Test.YtgommnmmifgbgaaMapCkN
import Derived.Test.YtgommnmmifgbgaaMapCkC
import Derived.Test.YtgommnmmifgbgaaPost
import Derived.ProofKit
import Derived.OpenShut
namespace Go.Proofs.Ytgommnmmifgbgaa
open Go.ChangeShapes Go.WideShapes Go.ChangeAt Go.RowKit

theorem Try.own : ownKnob Try.prog.godebug = none := by kernel_rfl

theorem fnMapCoded_any (kind p : Int) (w : World) : Calls Try.prog 4 #[.int .i64 kind, .int .i64 p] w fun e w' => IsTrue w e w' := by
  by_cases h : (decide (kind < 0) || decide (2 < kind) || decide (p < 1) || decide (50 < p)) = true
  · exact fnMapCoded_out kind p w h
  · simp only [Bool.or_eq_true, decide_eq_true_eq, not_or] at h
    obtain ⟨n, rfl⟩ : ∃ n : Nat, p = n := ⟨p.toNat, by omega⟩
    by_cases h0 : kind = 0
    · subst h0
      obtain ⟨a, ha, hc⟩ := kindLog n (allLog n (by omega) (by omega))
      exact fnMapCoded_in 0 n a w (by omega) (by omega) (by omega) (by omega) ha hc
    · by_cases h1 : kind = 1
      · subst h1
        obtain ⟨a, ha, hc⟩ := kindLin n (allLin n (by omega) (by omega))
        exact fnMapCoded_in 1 n a w (by omega) (by omega) (by omega) (by omega) ha hc
      · obtain rfl : kind = 2 := by omega
        obtain ⟨a, ha, hc⟩ := kindCub n (allCub n (by omega) (by omega))
        exact fnMapCoded_in 2 n a w (by omega) (by omega) (by omega) (by omega) ha hc

set_option maxRecDepth 100000 in
theorem fnMapCoded_lifted (os : Os) (started : os.Started) (H : Type) (enc : TypeId × Value → H) :
    ReturnsInHanded {} Try.checked os 4 .any (Rows.fnMapCodedSpec.pre6 enc Try.prog Try.f4 Rows.fnMapCodedRow.domain false) (Rows.fnMapCodedSpec.post enc Try.prog Try.f4 false true false false) := by
  refine returnsInHanded_of_change (C := Try.checked) Try.own started (by kernel_rfl) Try.func4
    (ChangeSpec.witness6 (enc := enc) (C := Try.checked) false ⟨#[], #[.int .i64 0, .int .i64 0], []⟩ 8 (by kernel_rfl) (by kernel_rfl) (by kernel_rfl) (by kernel_rfl)) ?_
  intro W base args ds gs before hval0 hW hcnd _
  have hval : ∀ (j : Nat) t v, Try.f4.params[j]? = some t → args[j]? = some v → Value.okWide Try.prog W .any base t v := hval0
  have hW' := hW
  obtain ⟨p, q, hA0, hV, rfl, hfz, hnd⟩ := hW
  have hA : DataW.TrodAll enc Try.prog W 0 (fun _ => true) true Try.f4.params.toList args.toList ds p := hA0
  rw [Try.params4] at hA hval
  obtain ⟨v0, v1, d0, d1, p0, p1, rfl, rfl, rfl, h0, h1⟩ := trodAll_two hA
  obtain ⟨rfl, rfl⟩ := trodVars_none hV
  obtain ⟨a, rfl, rfl, rfl, wa⟩ := open_int Try.underlying3 (hval 0 3 v0 rfl rfl) h0
  obtain ⟨b, rfl, rfl, rfl, wb⟩ := open_int Try.underlying3 (hval 1 3 v1 rfl rfl) h1
  clear hA0 hval0
  simp only [List.append_nil] at hW'
  refine (fnMapCoded_any a b W).mono fun e W' ⟨he, hg⟩ => ?_
  subst he
  exact ⟨_, rfl, post_of_below (pa := []) (pv := []) hW' (fun _ _ _ => trodAll_mk1 (shut_bool Try.underlying4 _)) (fun sp _ => trodAll_mk2 (shut_int Try.underlying3 wa) (shut_int Try.underlying3 wb)) (fun _ _ => rfl) rfl hg
    (ok_one (by kernel_rfl) rfl (okWide_bool_mk Try.underlying4 _))⟩

theorem fnMapCoded_holds : Rows.FnMapCodedSaid :=
  OpenClaim.holds_of_wide 4 Try.f4 rfl rfl rfl rfl rfl rfl rfl ⟨rfl, rfl, rfl, rfl, rfl⟩ rfl rfl rfl rfl rfl (by kernel_rfl) Try.func4 (by kernel_rfl)
    (of_decide_eq_true (by kernel_rfl)) (by unfold Func.isWrapper; first | (rw [if_pos (by decide +kernel)]; kernel_rfl) | (rw [if_neg (by decide +kernel)]; exact ⟨rfl, rfl⟩))
    (fun os started H enc _ => fnMapCoded_lifted os started H enc)
#print axioms fnMapCoded_holds
end Go.Proofs.Ytgommnmmifgbgaa
