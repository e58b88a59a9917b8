/-
  quietly: calls what it is handed; where that returns, the answer is true.
-/
import Derived.Test.YtgommnmmifgbgaaProg
import Derived.Test.YtgommnmmifgbgaaFrame
import Derived.Defers
import Derived.Recover
namespace Go.Proofs.Ytgommnmmifgbgaa
open Go.RowKit

theorem quiet_idle (p : Addr) (w : World) :
    CallsD Try.prog 20 #[.pointer (some p)] .returning w fun e u' w' => e = .returned (.tuple #[]) ∧ u' = .returning ∧ w' = w := by
  refine callsD_of_wpS Try.func20 rfl fun c₀ cs hu => ?_
  apply wpS_seq
  apply wpS_region
  simp [wpOpsS, go_sem, recoverD, hu, Try.ntmps20, Exit.thenS]
  refine wpS_cond (t := false) (by simp [Act.eval, Array.replicate]) ?_
  simp only [Bool.false_eq_true, if_false]
  refine wpS_of_wp (wp_skip ?_)
  cases c₀
  simp_all [bodyPostS, results, Try.results20]

/-- What the call of the closure leaves, and the answer laid in the named result's cell. -/
def Quieted (Q : World → Prop) (b : Nat) (w' : World) : Prop := ∃ w1, Q w1 ∧ w' = w1.setCell ⟨b, 0, none⟩ (.bool true)

set_option maxRecDepth 100000 in
theorem quietly_any (K : FuncId) (caps : Array Value) (w : World) (Q : World → Prop) (hK : ∀ w, (callFunc K caps).run Try.prog w = .ok (.enter K caps) w)
    (hf : Calls Try.prog K caps (w.alloc (.cells #[.bool false] 4)) fun e w1 => e = .returned (.tuple #[]) ∧ w1.heap[w.heap.size]? = some (.cells #[.bool false] 4 (0, 0)) ∧ Q w1) :
    Calls Try.prog 11 #[.func (.func K) #[] caps] w fun e w' => e = .returned (.bool true) ∧ Quieted Q w.heap.size w' := by
  have hmf : ∀ (fn : Fn) (first cap : Array Value) (w : World), (Instr.makeFunc fn first cap).run Try.prog w = .ok (.func fn first cap) w := fun _ _ _ _ => rfl
  go_enter_defers Try.func11, Try.ntmps11
  go_wp2_with fail
  refine hf.mono ?_
  rintro e w1 ⟨rfl, hc, hq⟩
  have hcc := cell_of_one hc
  have hff := free_of_one hc
  go_wp2
  refine leaves_cons (f := 20) (args := #[.pointer (some ⟨w.heap.size, 0, none⟩)]) (by simp) (by simp [go_sem]) ?_
  refine (quiet_idle ⟨w.heap.size, 0, none⟩ _).mono ?_
  rintro e u' w'' ⟨rfl, rfl, rfl⟩
  have hc2 := cell_of_one (one_setCell (u := .bool true) hc)
  simp only [Leaves, settle]
  refine ⟨.bool true, ?_, rfl, w1, hq, rfl⟩
  simp [results, Try.results11, go_sem, hc2]
end Go.Proofs.Ytgommnmmifgbgaa
