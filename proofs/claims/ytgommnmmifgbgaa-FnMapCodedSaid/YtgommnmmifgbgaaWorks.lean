/-
  works: it is true.
-/
import Derived.Test.YtgommnmmifgbgaaCoded
import Derived.Test.YtgommnmmifgbgaaEncU
namespace Go.Proofs.Ytgommnmmifgbgaa
open Go.RowKit

set_option maxRecDepth 100000 in
theorem uvarint_closure (pn : Nat) (v : Nat) (p : Nat) (r : Option Nat) (w : World) (hv : v < 18446744073709551616) (hpn : w.cell? ⟨pn, 0, none⟩ = some (.int .u64 v)) (hb : Buf 36 5 w p r []) :
    Calls Try.prog 18 (#[.pointer (some ⟨p, 0, none⟩)] ++ #[.pointer (some ⟨pn, 0, none⟩)]) w fun e w' => e = .returned (.tuple #[]) ∧ GrewTo 36 5 w w' p r (encU 8 v) := by
  have H := encU_any p r v [] w hv hb (by simp)
  clear hb hv
  go_enter Try.func18, Try.ntmps18
  go_wp2_with fail
  refine H.mono ?_
  clear H
  rintro e w1 ⟨rfl, hg⟩
  have G := Lib.hid hg; clear hg
  go_wp2
  go_end0
  exact ⟨rfl, by simpa using G.out⟩

set_option maxRecDepth 100000 in
theorem implUvarint_any (v : Nat) (w : World) (hv : v < 18446744073709551616) :
    Calls Try.prog 10 #[.int .u64 v] w fun e w' => GivesBytes (encU 8 v) w e w' := by
  have hmf : ∀ (fn : Fn) (first cap : Array Value) (w : World), (Instr.makeFunc fn first cap).run Try.prog w = .ok (.func fn first cap) w := fun _ _ _ _ => rfl
  have H := coded_any 18 #[.pointer (some ⟨w.heap.size, 0, none⟩)] (encU 8 v) (w.alloc (.cells #[.int .u64 v] 38))
    (fun p w => run_enter Try.func18 (by kernel_rfl) rfl _ w)
    (fun w1 p r hb hbel _ => uvarint_closure w.heap.size v p r w1 hv ((hbel.cell (p := ⟨w.heap.size, 0, none⟩) (by simp)).trans (cell_of_one (heap_alloc_new w _))) hb)
  clear hv
  go_enter Try.func10, Try.ntmps10
  go_wp2_with fail
  refine H.mono ?_
  clear H
  rintro e w1 ⟨ao, n, c, rfl, ⟨hby, hbel⟩⟩
  have G : Hid (GivesBytes (encU 8 v) w (.returned (.slice ao n c)) w1) :=
    ⟨ao, n, c, rfl, ⟨⟨hby.1, fun k hk => by have := hby.2 k hk; simp at this; omega⟩, ((Below.refl _ w).alloc (Nat.le_refl _) _).trans (hbel.mono (by simp))⟩⟩
  clear hby hbel
  go_wp2
  go_ret
  exact G.out

/-- It hands back true; nothing that was there has turned. -/
def IsTrue (w : World) (e : Ending) (w' : World) : Prop := e = .returned (.bool true) ∧ Below w.heap.size w w'

set_option maxRecDepth 100000 in
theorem works_any (w : World) : Calls Try.prog 6 #[] w fun e w' => IsTrue w e w' := by
  have H := implUvarint_any 1 w (by decide)
  go_enter Try.func6, Try.ntmps6
  go_wp2_with fail
  refine H.mono ?_
  clear H
  rintro e w1 ⟨ao, n, c, rfl, ⟨⟨hown, _⟩, hbel⟩⟩
  have hst := run_string_of_owned (P := Try.prog) 36 5 9 Try.underlying36 Try.underlying5 Try.underlying9 hown
  have G := Lib.hid hbel
  clear hown hbel
  go_wp2
  go_ret
  exact ⟨by show Ending.returned (.bool ((str (encU 8 1)).toList == [1])) = _; rw [show ((str (encU 8 1)).toList == [1]) = true from by decide +kernel], G.out⟩
end Go.Proofs.Ytgommnmmifgbgaa
