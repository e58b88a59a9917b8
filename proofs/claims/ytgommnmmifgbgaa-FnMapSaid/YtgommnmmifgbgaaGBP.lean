/-
  The row's last step where of the world behind the call 'Below' alone is known.
-/
import Derived.Below
import Derived.ChangeSame
import Derived.Test.YtgommnmmifgbgaaRows
import Derived.Test.YtgommnmmifgbgaaGAR
import Derived.Test.YtgommnmmifgbgaaGBA
import Derived.Test.YtgommnmmifgbgaaGBF
import Derived.Test.YtgommnmmifgbgaaGBO
import Derived.ProofKit
import Derived.OpenShut
section
namespace Go.Proofs.Ytgommnmmifgbgaa
open Go.RowKit Go.WideShapes Go.ChangeShapes

section
variable {H : Type} {enc : TypeId × Value → H} {P : Program}
theorem post_of_below {f : Func} {s : ChangeSpec} {apart fresh handsOn again : Bool} {W W' : World} {args : Array Value} {v : Value} {ds gs : List (DataW H)} {before pa pv : List MemPlace}
    (hW : DataW.Whole enc P f.params.toList s.vars apart W args.toList ds gs before)
    (hres : ∀ (b : Nat) (sp : Nat → Bool) (hd : Bool), DataW.TrodAll enc P W' b sp hd f.resultTypes.toList (v.resultList f.resultTypes.size) (s.fn H (ds ++ gs)).results [])
    (hargs : ∀ sp : Nat → Bool, (∀ p ∈ before, sp p.block = true) → DataW.TrodAll enc P W' 0 sp true f.params.toList args.toList (s.fn H (ds ++ gs)).args pa)
    (hvars : ∀ sp : Nat → Bool, (∀ p ∈ before, sp p.block = true) → DataW.TrodVars enc P W' sp s.vars (s.fn H (ds ++ gs)).vars pv)
    (hps : before = pa ++ pv) (hb : Below W.heap.size W W')
    (hok : ∀ (j : Nat) (t : TypeId) (r : Value), f.resultTypes[j]? = some t → (v.resultList f.resultTypes.size)[j]? = some r → Value.okWide P W' .any 0 t r) :
    s.post enc P f apart fresh handsOn again W args v W' := by
  have hlt : ∀ p ∈ before, p.block < W.heap.size := fun p hp => hW.lt p hp
  have hold : ∀ p ∈ before, (fun b => decide (b < W.heap.size)) p.block = true := fun p hp => by simpa using hlt p hp
  refine ⟨ds, gs, before, [], pa, pv, hW, hres _ _ _, hargs _ hold, hvars _ hold, World.keptBut_mono (fun p hp => ⟨hp, ?_⟩) (hb.frame (· ∈ before)), fun _ => ?_⟩
  · rw [hps, List.mem_append] at hp
    exact Or.inr hp
  · obtain ⟨_, _, _, _, _, hz, hn⟩ := hW
    refine ⟨hok, _, _, ([] ++ pa) ++ pv, ⟨[] ++ pa, pv, trodAll_append (hargs _ (fun _ _ => rfl)) (hres _ _ _), hvars _ (fun _ _ => rfl), rfl, ?_, ?_⟩, ?_⟩
    · intro b off hp
      have hin : MemPlace.cell b off ∈ before := by rw [hps]; simpa using hp
      rw [hb.frozen (hlt _ hin)]
      exact hz b off hin
    · intro ha
      have := hn ha
      rw [hps] at this
      simpa using this
    · intro p hp _
      rw [hps]
      simpa using hp
end
end Go.Proofs.Ytgommnmmifgbgaa
end
/-
  FnMap, for every kind, every percent and any two floats: the call returns true, and the arguments read as they did. No condition.
-/
section
namespace Go.Proofs.Ytgommnmmifgbgaa
open Go.ChangeShapes Go.WideShapes Go.ChangeAt Go.RowKit

theorem Try.own : ownKnob Try.prog.godebug = none := by kernel_rfl

theorem fnMap_any (kind p : Int) (a b : Nat) (wa : (Lit.float .f64 a).wf = true) (wb : (Lit.float .f64 b).wf = true) (w : World) : Calls Try.prog 3 #[.int .i64 kind, .int .i64 p, .float .f64 a, .float .f64 b] w fun e w' => IsTrue w e w' := by
  have la : a < 18446744073709551616 := by simpa [Lit.wf] using wa
  have lb : b < 18446744073709551616 := by simpa [Lit.wf] using wb
  by_cases h : 0 ≤ kind ∧ kind ≤ 2 ∧ 1 ≤ p ∧ p ≤ 50 ∧ fitsB a = true ∧ fitsB b = true ∧ fle a 0 = false ∧ fle b 0 = false
  · obtain ⟨k1, k2, p1, p2, fa, fb, na, nb⟩ := h
    obtain ⟨n, rfl⟩ : ∃ n : Nat, p = n := ⟨p.toNat, by omega⟩
    by_cases h0 : kind = 0
    · subst h0
      exact fnMap_kind kindLogM n a b w (by omega) (by omega) (by omega) (by omega) (okLog n (by omega) (by omega)) la lb fa fb na nb
    · by_cases h1 : kind = 1
      · subst h1
        exact fnMap_kind kindLinM n a b w (by omega) (by omega) (by omega) (by omega) (okLin n (by omega) (by omega)) la lb fa fb na nb
      · obtain rfl : kind = 2 := by omega
        exact fnMap_kind kindCubM n a b w (by omega) (by omega) (by omega) (by omega) (okCub n (by omega) (by omega)) la lb fa fb na nb
  · exact fnMap_out kind p a b w h

set_option maxRecDepth 100000 in
theorem fnMap_lifted (os : Os) (started : os.Started) (H : Type) (enc : TypeId × Value → H) :
    ReturnsInHanded {} Try.checked os 3 .any (Rows.fnMapSpec.pre6 enc Try.prog Try.f3 Rows.fnMapRow.domain false) (Rows.fnMapSpec.post enc Try.prog Try.f3 false true false false) := by
  refine returnsInHanded_of_change (C := Try.checked) Try.own started (by kernel_rfl) Try.func3
    (ChangeSpec.witness6 (enc := enc) (C := Try.checked) false ⟨#[], #[.int .i64 0, .int .i64 0, .float .f64 0, .float .f64 0], []⟩ 8 (by kernel_rfl) (by kernel_rfl) (by kernel_rfl) (by kernel_rfl)) ?_
  intro W base args ds gs before hval0 hW hcnd _
  have hval : ∀ (j : Nat) t v, Try.f3.params[j]? = some t → args[j]? = some v → Value.okWide Try.prog W .any base t v := hval0
  have hW' := hW
  obtain ⟨p, q, hA0, hV, rfl, hfz, hnd⟩ := hW
  have hA : DataW.TrodAll enc Try.prog W 0 (fun _ => true) true Try.f3.params.toList args.toList ds p := hA0
  rw [Try.params3] at hA hval
  obtain ⟨v0, v1, v2, v3, d0, d1, d2, d3, p0, p1, p2, p3, rfl, rfl, rfl, h0, h1, h2, h3⟩ := trodAll_four hA
  obtain ⟨rfl, rfl⟩ := trodVars_none hV
  obtain ⟨a, rfl, rfl, rfl, wa⟩ := open_int Try.underlying3 (hval 0 3 v0 rfl rfl) h0
  obtain ⟨b, rfl, rfl, rfl, wb⟩ := open_int Try.underlying3 (hval 1 3 v1 rfl rfl) h1
  obtain ⟨c, rfl, rfl, rfl, wc⟩ := open_float Try.underlying22 (hval 2 22 v2 rfl rfl) h2
  obtain ⟨d, rfl, rfl, rfl, wd⟩ := open_float Try.underlying22 (hval 3 22 v3 rfl rfl) h3
  clear hA0 hval0
  simp only [List.append_nil] at hW'
  refine (fnMap_any a b c d wc wd W).mono fun e W' ⟨he, hg⟩ => ?_
  subst he
  exact ⟨_, rfl, post_of_below (pa := []) (pv := []) hW' (fun _ _ _ => trodAll_mk1 (shut_bool Try.underlying4 _)) (fun sp _ => trodAll_mk4 (shut_int Try.underlying3 wa) (shut_int Try.underlying3 wb) (shut_float Try.underlying22 wc) (shut_float Try.underlying22 wd)) (fun _ _ => rfl) rfl hg
    (ok_one (by kernel_rfl) rfl (okWide_bool_mk Try.underlying4 _))⟩

theorem fnMap_holds : Rows.FnMapSaid :=
  OpenClaim.holds_of_wide 3 Try.f3 rfl rfl rfl rfl rfl rfl rfl ⟨rfl, rfl, rfl, rfl, rfl⟩ rfl rfl rfl rfl rfl (by kernel_rfl) Try.func3 (by kernel_rfl)
    (of_decide_eq_true (by kernel_rfl)) (by unfold Func.isWrapper; first | (rw [if_pos (by decide +kernel)]; kernel_rfl) | (rw [if_neg (by decide +kernel)]; exact ⟨rfl, rfl⟩))
    (fun os started H enc _ => fnMap_lifted os started H enc)
#print axioms fnMap_holds
end Go.Proofs.Ytgommnmmifgbgaa
end
