/-
  impl.Varint, impl.Varfloat: the bytes of a number with a sign, of one with a fraction.
-/
import Derived.Test.YtgjlbodclfhlfaaDoorWorks
import Derived.Test.YtgjlbodclfhlfaaDoorInt
import Derived.Test.YtgjlbodclfhlfaaDoorEncV
namespace Go.Proofs.YtgjlbodclfhlfaaDoor
open Go.RowKit

set_option maxRecDepth 100000 in
theorem varint_closure (pn : Nat) (m : Int) (ys : List Nat) (hys : ys = encU 8 (folded m)) (p : Nat) (r : Option Nat) (w : World) (h0 : -9223372036854775808 ≤ m) (h1 : m ≤ 9223372036854775807) (hpn : w.cell? ⟨pn, 0, none⟩ = some (.int .i64 m)) (hb : Buf 23 5 w p r []) :
    Calls Tryd.prog 33 (#[.pointer (some ⟨p, 0, none⟩)] ++ #[.pointer (some ⟨pn, 0, none⟩)]) w fun e w' => e = .returned (.tuple #[]) ∧ GrewTo 23 5 w w' p r ys := by
  have H := encI_any p r m [] w h0 h1 hb (by simp)
  rw [List.nil_append, ← hys] at H
  clear hys
  clear hb h0 h1
  go_enter Tryd.func33, Tryd.ntmps33
  go_wp2_with fail
  refine H.mono ?_
  clear H
  rintro e w1 ⟨rfl, hg⟩
  have G := Lib.hid hg; clear hg
  go_wp2
  go_end0
  exact ⟨rfl, G.out⟩

set_option maxRecDepth 100000 in
theorem implVarint_any (m : Int) (ys : List Nat) (hys : ys = encU 8 (folded m)) (w : World) (h0 : -9223372036854775808 ≤ m) (h1 : m ≤ 9223372036854775807) :
    Calls Tryd.prog 15 #[.int .i64 m] w fun e w' => GivesBytes ys w e w' := by
  have hmf : ∀ (fn : Fn) (first cap : Array Value) (w : World), (Instr.makeFunc fn first cap).run Tryd.prog w = .ok (.func fn first cap) w := fun _ _ _ _ => rfl
  have H := coded_any 33 #[.pointer (some ⟨w.heap.size, 0, none⟩)] ys (w.alloc (.cells #[.int .i64 m] 2))
    (fun p w => run_enter Tryd.func33 (by kernel_rfl) rfl _ w)
    (fun w1 p r hb hbel _ => varint_closure w.heap.size m ys hys p r w1 h0 h1 ((hbel.cell (p := ⟨w.heap.size, 0, none⟩) (by simp)).trans (cell_of_one (heap_alloc_new w _))) hb)
  clear hys
  clear h0 h1
  go_enter Tryd.func15, Tryd.ntmps15
  go_wp2_with fail
  refine H.mono ?_
  clear H
  rintro e w1 ⟨ao, n, c, rfl, ⟨hby, hbel⟩⟩
  have G : Hid (GivesBytes ys w (.returned (.slice ao n c)) w1) :=
    ⟨ao, n, c, rfl, ⟨⟨hby.1, fun k hk => by have := hby.2 k hk; simp at this; omega⟩, ((Below.refl _ w).alloc (Nat.le_refl _) _).trans (hbel.mono (by simp))⟩⟩
  clear hby hbel
  go_wp2
  go_ret
  exact G.out

set_option maxRecDepth 100000 in
theorem varfloat_closure (pn : Nat) (fb r0 : Nat) (ys : List Nat) (hys : ys = encV 8 (turned r0)) (p : Nat) (r : Option Nat) (w : World) (hr : floatBits .add .f64 fb 4607182418800017408 = some r0) (hpn : w.cell? ⟨pn, 0, none⟩ = some (.float .f64 fb)) (hb : Buf 23 5 w p r []) :
    Calls Tryd.prog 23 (#[.pointer (some ⟨p, 0, none⟩)] ++ #[.pointer (some ⟨pn, 0, none⟩)]) w fun e w' => e = .returned (.tuple #[]) ∧ GrewTo 23 5 w w' p r ys := by
  have H := encV_any p r fb r0 [] w hr hb (by simp)
  rw [List.nil_append, ← hys] at H
  clear hys
  clear hb hr
  go_enter Tryd.func23, Tryd.ntmps23
  go_wp2_with fail
  refine H.mono ?_
  clear H
  rintro e w1 ⟨rfl, hg⟩
  have G := Lib.hid hg; clear hg
  go_wp2
  go_end0
  exact ⟨rfl, G.out⟩

set_option maxRecDepth 100000 in
theorem implVarfloat_any (fb r0 : Nat) (ys : List Nat) (hys : ys = encV 8 (turned r0)) (w : World) (hr : floatBits .add .f64 fb 4607182418800017408 = some r0) :
    Calls Tryd.prog 8 #[.float .f64 fb] w fun e w' => GivesBytes ys w e w' := by
  have hmf : ∀ (fn : Fn) (first cap : Array Value) (w : World), (Instr.makeFunc fn first cap).run Tryd.prog w = .ok (.func fn first cap) w := fun _ _ _ _ => rfl
  have H := coded_any 23 #[.pointer (some ⟨w.heap.size, 0, none⟩)] ys (w.alloc (.cells #[.float .f64 fb] 22))
    (fun p w => run_enter Tryd.func23 (by kernel_rfl) rfl _ w)
    (fun w1 p r hb hbel _ => varfloat_closure w.heap.size fb r0 ys hys p r w1 hr ((hbel.cell (p := ⟨w.heap.size, 0, none⟩) (by simp)).trans (cell_of_one (heap_alloc_new w _))) hb)
  clear hys
  clear hr
  go_enter Tryd.func8, Tryd.ntmps8
  go_wp2_with fail
  refine H.mono ?_
  clear H
  rintro e w1 ⟨ao, n, c, rfl, ⟨hby, hbel⟩⟩
  have G : Hid (GivesBytes ys w (.returned (.slice ao n c)) w1) :=
    ⟨ao, n, c, rfl, ⟨⟨hby.1, fun k hk => by have := hby.2 k hk; simp at this; omega⟩, ((Below.refl _ w).alloc (Nat.le_refl _) _).trans (hbel.mono (by simp))⟩⟩
  clear hby hbel
  go_wp2
  go_ret
  exact G.out
end Go.Proofs.YtgjlbodclfhlfaaDoor
