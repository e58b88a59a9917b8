/-
  The flags of the mappings, each a byte.
-/
import Derived.Test.YtgommnmmifgbgaaEncFlag
namespace Go.Proofs.Ytgommnmmifgbgaa
open Go.RowKit

/-- It hands back a struct of one byte; below the call nothing has turned. -/
def Byte (f : Int) (w : World) (e : Ending) (w' : World) : Prop := e = .returned (.agg #[.int .u8 f]) ∧ Below w.heap.size w w'

theorem alloc_below (w : World) (o : Obj) (v : Value) : Below w.heap.size w ((w.alloc o).setCell ⟨w.heap.size, 0, none⟩ v) :=
  ((Below.refl _ w).alloc (Nat.le_refl _) _).setCell (by simp) _

theorem below_heap {W w1 : World} {k : Nat} {o : Obj} (hb : Below W.heap.size W w1) (hc : W.heap[k]? = some o) : w1.heap[k]? = some o := (hb.5 k (lt_of_block hc)).trans hc

set_option maxRecDepth 100000 in
theorem flagMap_any (w : World) : Calls Try.prog 36 #[] w fun e w' => Byte 2 w e w' := by
  go_enter Try.func36, Try.ntmps36
  go_wp2
  exact bodyPost_ret (v := .agg #[.int .u8 2]) (by simp [results, Try.results36, go_sem]) rfl ⟨rfl, (Below.refl _ w).alloc (Nat.le_refl _) _⟩


set_option maxRecDepth 100000 in
theorem subFlag_any (f g : Int) (hg : IntKind.u8.wrap (f * 2 ^ 2) = g) (w : World) : Calls Try.prog 37 #[.int .u8 f] w fun e w' => Byte g w e w' := by
  have hg2 : IntKind.u8.wrap (f * 4) = g := hg
  go_enter Try.func37, Try.ntmps37
  go_wp2
  exact bodyPost_ret (v := .agg #[.int .u8 g]) (by simp [results, Try.results37, go_sem]) rfl ⟨rfl, (Below.refl _ w).alloc (Nat.le_refl _) _⟩

set_option maxRecDepth 100000 in
theorem newFlag_any (t s f : Int) (hf : bits .or .u8 t s = f) (w : World) : Calls Try.prog 35 #[.agg #[.int .u8 t], .agg #[.int .u8 s]] w fun e w' => Byte f w e w' := by
  go_enter Try.func35, Try.ntmps35
  go_wp2
  exact bodyPost_ret (v := .agg #[.int .u8 f]) (by simp [results, Try.results35, go_sem]) rfl ⟨rfl, (((Below.refl _ w).alloc (Nat.le_refl _) _).alloc (by simp) _).alloc (by simp; omega) _⟩


set_option maxRecDepth 100000 in
theorem flagLog_any (w : World) : Calls Try.prog 24 #[] w fun e w' => Byte 2 w e w' := by
  have H1 := fun w => subFlag_any 0 0 (by decide) w
  have H2 := fun w => newFlag_any 2 0 2 (by decide) w
  have K0 := Lib.hid (heap_alloc_new w (.cells #[.int .u8 0] 50))
  go_enter Try.func24, Try.ntmps24
  go_wp2_with (first | (go_at_call 36; (with_reducible refine (flagMap_any _).mono ?_); rintro e w1 ⟨rfl, hb1⟩; have K1 := Lib.hid (below_heap hb1 K0.out)) | (go_at_call 37; (with_reducible refine (H1 _).mono ?_); rintro e w2 ⟨rfl, hb2⟩; have K2 := Lib.hid (below_heap hb2 K1.out)) | (go_at_call 35; (with_reducible refine (H2 _).mono ?_); rintro e w3 ⟨rfl, hb3⟩; have K3 := below_heap hb3 K2.out; have c3 := cell_of_one K3; have f3 := free_of_one K3; have c4 := cell_of_one (one_setCell (u := .int .u8 2) K3); clear K3))
  refine bodyPost_ret (v := .agg #[.int .u8 2]) (by simp [results, Try.results24, go_sem, c4]) rfl ⟨rfl, ?_⟩
  have hb := ((((Below.refl _ w).alloc (Nat.le_refl _) _).trans (hb1.mono (by simp))).trans (hb2.mono (by have := hb1.size; simp at this; omega))).trans (hb3.mono (by have := hb1.size; have := hb2.size; simp at *; omega))
  exact hb.setCell (Nat.le_refl _) _

set_option maxRecDepth 100000 in
theorem flagLin_any (w : World) : Calls Try.prog 27 #[] w fun e w' => Byte 6 w e w' := by
  have H1 := fun w => subFlag_any 1 4 (by decide) w
  have H2 := fun w => newFlag_any 2 4 6 (by decide) w
  have K0 := Lib.hid (heap_alloc_new w (.cells #[.int .u8 0] 50))
  go_enter Try.func27, Try.ntmps27
  go_wp2_with (first | (go_at_call 36; (with_reducible refine (flagMap_any _).mono ?_); rintro e w1 ⟨rfl, hb1⟩; have K1 := Lib.hid (below_heap hb1 K0.out)) | (go_at_call 37; (with_reducible refine (H1 _).mono ?_); rintro e w2 ⟨rfl, hb2⟩; have K2 := Lib.hid (below_heap hb2 K1.out)) | (go_at_call 35; (with_reducible refine (H2 _).mono ?_); rintro e w3 ⟨rfl, hb3⟩; have K3 := below_heap hb3 K2.out; have c3 := cell_of_one K3; have f3 := free_of_one K3; have c4 := cell_of_one (one_setCell (u := .int .u8 6) K3); clear K3))
  refine bodyPost_ret (v := .agg #[.int .u8 6]) (by simp [results, Try.results27, go_sem, c4]) rfl ⟨rfl, ?_⟩
  have hb := ((((Below.refl _ w).alloc (Nat.le_refl _) _).trans (hb1.mono (by simp))).trans (hb2.mono (by have := hb1.size; simp at this; omega))).trans (hb3.mono (by have := hb1.size; have := hb2.size; simp at *; omega))
  exact hb.setCell (Nat.le_refl _) _

set_option maxRecDepth 100000 in
theorem flagCub_any (w : World) : Calls Try.prog 29 #[] w fun e w' => Byte 14 w e w' := by
  have H1 := fun w => subFlag_any 3 12 (by decide) w
  have H2 := fun w => newFlag_any 2 12 14 (by decide) w
  have K0 := Lib.hid (heap_alloc_new w (.cells #[.int .u8 0] 50))
  go_enter Try.func29, Try.ntmps29
  go_wp2_with (first | (go_at_call 36; (with_reducible refine (flagMap_any _).mono ?_); rintro e w1 ⟨rfl, hb1⟩; have K1 := Lib.hid (below_heap hb1 K0.out)) | (go_at_call 37; (with_reducible refine (H1 _).mono ?_); rintro e w2 ⟨rfl, hb2⟩; have K2 := Lib.hid (below_heap hb2 K1.out)) | (go_at_call 35; (with_reducible refine (H2 _).mono ?_); rintro e w3 ⟨rfl, hb3⟩; have K3 := below_heap hb3 K2.out; have c3 := cell_of_one K3; have f3 := free_of_one K3; have c4 := cell_of_one (one_setCell (u := .int .u8 14) K3); clear K3))
  refine bodyPost_ret (v := .agg #[.int .u8 14]) (by simp [results, Try.results29, go_sem, c4]) rfl ⟨rfl, ?_⟩
  have hb := ((((Below.refl _ w).alloc (Nat.le_refl _) _).trans (hb1.mono (by simp))).trans (hb2.mono (by have := hb1.size; simp at this; omega))).trans (hb3.mono (by have := hb1.size; have := hb2.size; simp at *; omega))
  exact hb.setCell (Nat.le_refl _) _
end Go.Proofs.Ytgommnmmifgbgaa
