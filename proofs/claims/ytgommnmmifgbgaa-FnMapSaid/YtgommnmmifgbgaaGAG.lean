/-
  impl.Map: what a mapping tells of the values of a list.
-/
import Derived.Test.YtgommnmmifgbgaaGAF
import Derived.Deep.RegionHeld3
import Derived.Laws.FloatArith
section
namespace Go.Proofs.Ytgommnmmifgbgaa
open Go.RowKit

theorem alloc_at {w : World} {o : Obj} {n : Nat} (h : w.heap.size = n) : (w.alloc o).heap[n]? = some o := by subst h; exact heap_alloc_new w o
theorem alloc_old {w : World} {o x : Obj} {k : Nat} (h : w.heap[k]? = some x) : (w.alloc o).heap[k]? = some x := (Below.heap_alloc w o k (lt_of_block h)).trans h
theorem alloc_size {w : World} {o : Obj} {n : Nat} (h : w.heap.size = n) : (w.alloc o).heap.size = n + 1 := by subst h; simp

/-- What impl.Map hands back. -/
def MapGives (ts : List ToldV) (ra mn mx : Nat) (w : World) (e : Ending) (w' : World) : Prop :=
  ∃ ao cr, e = .returned (.tuple #[.slice ao ts.length cr, .float .f64 ra, .float .f64 mn, .float .f64 mx, .bool true]) ∧ w'.ownsRow 0 31 4 (.slice ao ts.length cr) ts.length (tc ts) ∧ Below w.heap.size w w'

/-- The results' variables, and what they hold. -/
structure MapHeld (p3 p4 p5 p6 p7 : Nat) (v : Value) (ts : List ToldV) (ra mn mx : Nat) (w w' : World) : Prop where
  h3 : w'.heap[p3]? = some (.cells #[v] 25 (0, 0))
  h4 : w'.heap[p4]? = some (.cells #[.float .f64 ra] 22 (0, 0))
  h5 : w'.heap[p5]? = some (.cells #[.float .f64 mn] 22 (0, 0))
  h6 : w'.heap[p6]? = some (.cells #[.float .f64 mx] 22 (0, 0))
  h7 : w'.heap[p7]? = some (.cells #[.bool true] 4 (0, 0))
  row : w'.ownsRow 0 31 4 v ts.length (tc ts)
  ne : ∀ b, v.ownBlock = some b → b ≠ p3 ∧ b ≠ p4 ∧ b ≠ p5 ∧ b ≠ p6 ∧ b ≠ p7
  below : Below w.heap.size w w'
  ds : w.heap.size ≤ p3 ∧ p3 < p4 ∧ p4 < p5 ∧ p5 < p6 ∧ p6 < p7

section
variable {p3 p4 p5 p6 p7 : Nat} {v : Value} {ts : List ToldV} {ra mn mx : Nat} {w w' : World}
theorem MapHeld.set3 (h : MapHeld p3 p4 p5 p6 p7 v ts ra mn mx w w') : MapHeld p3 p4 p5 p6 p7 v ts ra mn mx w (w'.setCell ⟨p3, 0, none⟩ v) := by
  have d := h.ds
  exact ⟨one_setCell h.h3, (heap_setCell_other _ _ _ _ (show p4 ≠ p3 by omega)).trans h.h4, (heap_setCell_other _ _ _ _ (show p5 ≠ p3 by omega)).trans h.h5, (heap_setCell_other _ _ _ _ (show p6 ≠ p3 by omega)).trans h.h6, (heap_setCell_other _ _ _ _ (show p7 ≠ p3 by omega)).trans h.h7,
    ownsRow_setCell_other h.row (fun e => (h.ne _ e).1 rfl) _, h.ne, h.below.setCell (show w.heap.size ≤ p3 by omega) _, d⟩
theorem MapHeld.set4 (h : MapHeld p3 p4 p5 p6 p7 v ts ra mn mx w w') : MapHeld p3 p4 p5 p6 p7 v ts ra mn mx w (w'.setCell ⟨p4, 0, none⟩ (.float .f64 ra)) := by
  have d := h.ds
  exact ⟨(heap_setCell_other _ _ _ _ (show p3 ≠ p4 by omega)).trans h.h3, one_setCell h.h4, (heap_setCell_other _ _ _ _ (show p5 ≠ p4 by omega)).trans h.h5, (heap_setCell_other _ _ _ _ (show p6 ≠ p4 by omega)).trans h.h6, (heap_setCell_other _ _ _ _ (show p7 ≠ p4 by omega)).trans h.h7,
    ownsRow_setCell_other h.row (fun e => (h.ne _ e).2.1 rfl) _, h.ne, h.below.setCell (show w.heap.size ≤ p4 by omega) _, d⟩
theorem MapHeld.set5 (h : MapHeld p3 p4 p5 p6 p7 v ts ra mn mx w w') : MapHeld p3 p4 p5 p6 p7 v ts ra mn mx w (w'.setCell ⟨p5, 0, none⟩ (.float .f64 mn)) := by
  have d := h.ds
  exact ⟨(heap_setCell_other _ _ _ _ (show p3 ≠ p5 by omega)).trans h.h3, (heap_setCell_other _ _ _ _ (show p4 ≠ p5 by omega)).trans h.h4, one_setCell h.h5, (heap_setCell_other _ _ _ _ (show p6 ≠ p5 by omega)).trans h.h6, (heap_setCell_other _ _ _ _ (show p7 ≠ p5 by omega)).trans h.h7,
    ownsRow_setCell_other h.row (fun e => (h.ne _ e).2.2.1 rfl) _, h.ne, h.below.setCell (show w.heap.size ≤ p5 by omega) _, d⟩
theorem MapHeld.set6 (h : MapHeld p3 p4 p5 p6 p7 v ts ra mn mx w w') : MapHeld p3 p4 p5 p6 p7 v ts ra mn mx w (w'.setCell ⟨p6, 0, none⟩ (.float .f64 mx)) := by
  have d := h.ds
  exact ⟨(heap_setCell_other _ _ _ _ (show p3 ≠ p6 by omega)).trans h.h3, (heap_setCell_other _ _ _ _ (show p4 ≠ p6 by omega)).trans h.h4, (heap_setCell_other _ _ _ _ (show p5 ≠ p6 by omega)).trans h.h5, one_setCell h.h6, (heap_setCell_other _ _ _ _ (show p7 ≠ p6 by omega)).trans h.h7,
    ownsRow_setCell_other h.row (fun e => (h.ne _ e).2.2.2.1 rfl) _, h.ne, h.below.setCell (show w.heap.size ≤ p6 by omega) _, d⟩
theorem MapHeld.set7 (h : MapHeld p3 p4 p5 p6 p7 v ts ra mn mx w w') : MapHeld p3 p4 p5 p6 p7 v ts ra mn mx w (w'.setCell ⟨p7, 0, none⟩ (.bool true)) := by
  have d := h.ds
  exact ⟨(heap_setCell_other _ _ _ _ (show p3 ≠ p7 by omega)).trans h.h3, (heap_setCell_other _ _ _ _ (show p4 ≠ p7 by omega)).trans h.h4, (heap_setCell_other _ _ _ _ (show p5 ≠ p7 by omega)).trans h.h5, (heap_setCell_other _ _ _ _ (show p6 ≠ p7 by omega)).trans h.h6, one_setCell h.h7,
    ownsRow_setCell_other h.row (fun e => (h.ne _ e).2.2.2.2 rfl) _, h.ne, h.below.setCell (show w.heap.size ≤ p7 by omega) _, d⟩
theorem MapHeld.drew (h : MapHeld p3 p4 p5 p6 p7 v ts ra mn mx w w') : MapHeld p3 p4 p5 p6 p7 v ts ra mn mx w w'.drew := ⟨h.h3, h.h4, h.h5, h.h6, h.h7, h.row, h.ne, h.below.drew, h.ds⟩

/-- The same, with the cells told. -/
abbrev MapS (p3 p4 p5 p6 p7 : Nat) (v : Value) (ts : List ToldV) (ra mn mx : Nat) (w w' : World) : Prop :=
  (w'.cell? ⟨p3, 0, none⟩ = some v ∧ w'.cell? ⟨p4, 0, none⟩ = some (.float .f64 ra) ∧ w'.cell? ⟨p5, 0, none⟩ = some (.float .f64 mn) ∧ w'.cell? ⟨p6, 0, none⟩ = some (.float .f64 mx) ∧ w'.cell? ⟨p7, 0, none⟩ = some (.bool true)) ∧
  (w'.frozen? ⟨p3, 0, none⟩ = false ∧ w'.frozen? ⟨p4, 0, none⟩ = false ∧ w'.frozen? ⟨p5, 0, none⟩ = false ∧ w'.frozen? ⟨p6, 0, none⟩ = false ∧ w'.frozen? ⟨p7, 0, none⟩ = false) ∧ MapHeld p3 p4 p5 p6 p7 v ts ra mn mx w w'
theorem MapHeld.told (h : MapHeld p3 p4 p5 p6 p7 v ts ra mn mx w w') : MapS p3 p4 p5 p6 p7 v ts ra mn mx w w' :=
  ⟨⟨cell_of_one h.h3, cell_of_one h.h4, cell_of_one h.h5, cell_of_one h.h6, cell_of_one h.h7⟩, ⟨free_of_one h.h3, free_of_one h.h4, free_of_one h.h5, free_of_one h.h6, free_of_one h.h7⟩, h⟩
end

set_option maxRecDepth 100000 in
set_option maxHeartbeats 1000000 in
theorem map_any {kind : Int} {of_ : Nat → Option (Nat × Nat × Nat × Nat × Nat)} {acc : Nat → Option Nat} {idx : Nat → Nat → Nat → Option Int} {lower : Nat → Nat → Int → Option Nat} {value : Nat → Nat → Nat → Int → Option Nat} (K : MapKind kind of_ acc idx lower value)
   (a g off mult mn mx ra gl cl : Nat) (vs : List Nat) (ts : List ToldV) (w : World)
   (hv : LieV w gl vs) (hgl : gl < w.heap.size) (hn : vs.length < 1000)
   (hmk : of_ a = some (g, off, mult, mn, mx)) (hacc : acc g = some ra) (hlen : ts.length = vs.length)
   (htold : ∀ k, (h : k < ts.length) → ∃ v, vs[k]? = some v ∧ idx off mult v = some ts[k].i ∧ value g off mult ts[k].i = some ts[k].v ∧ lower off mult ts[k].i = some ts[k].l ∧ lower off mult (ts[k].i + 1) = some ts[k].u ∧ -1000000 ≤ ts[k].i ∧ ts[k].i ≤ 1000000) :
    Calls Try.prog 7 #[.int .i64 kind, .float .f64 a, .slice (some ⟨gl, 0, none⟩) vs.length cl] w fun e w' => MapGives ts ra mn mx w e w' := by
  have hmf : ∀ (fn : Fn) (first cap : Array Value) (w : World), (Instr.makeFunc fn first cap).run Try.prog w = .ok (.func fn first cap) w := fun _ _ _ _ => rfl
  -- the blocks
  have f0 := alloc_at (w := w) (o := .cells #[.int .i64 kind] 3) rfl
  have s0 := alloc_size (w := w) (o := .cells #[.int .i64 kind] 3) rfl
  obtain ⟨W0, hW0⟩ : ∃ W, W = w.alloc (.cells #[.int .i64 kind] 3) := ⟨_, rfl⟩
  have b0 : Below w.heap.size w W0 := by rw [hW0]; exact (Below.refl _ w).alloc (Nat.le_refl _) _
  have l0 : LieV W0 gl vs := fun i hi => b0.cell hgl |>.trans (hv i hi)
  rw [← hW0] at f0 s0
  have f1 := alloc_at (o := .cells #[.float .f64 a] 22) s0
  have s1 := alloc_size (o := .cells #[.float .f64 a] 22) s0
  replace f0 := alloc_old (o := .cells #[.float .f64 a] 22) f0
  obtain ⟨W1, hW1⟩ : ∃ W, W = W0.alloc (.cells #[.float .f64 a] 22) := ⟨_, rfl⟩
  have b1 : Below w.heap.size w W1 := by rw [hW1]; exact b0.alloc (by omega) _
  rw [← hW1] at f0 f1 s1
  have f2 := alloc_at (o := .cells #[.slice (some ⟨gl, 0, none⟩) vs.length cl] 28) s1
  have s2 := alloc_size (o := .cells #[.slice (some ⟨gl, 0, none⟩) vs.length cl] 28) s1
  replace f0 := alloc_old (o := .cells #[.slice (some ⟨gl, 0, none⟩) vs.length cl] 28) f0
  replace f1 := alloc_old (o := .cells #[.slice (some ⟨gl, 0, none⟩) vs.length cl] 28) f1
  obtain ⟨W2, hW2⟩ : ∃ W, W = W1.alloc (.cells #[.slice (some ⟨gl, 0, none⟩) vs.length cl] 28) := ⟨_, rfl⟩
  have b2 : Below w.heap.size w W2 := by rw [hW2]; exact b1.alloc (by omega) _
  rw [← hW2] at f0 f1 f2 s2
  have f3 := alloc_at (o := .cells #[.slice none 0 0] 25) s2
  have s3 := alloc_size (o := .cells #[.slice none 0 0] 25) s2
  replace f0 := alloc_old (o := .cells #[.slice none 0 0] 25) f0
  replace f1 := alloc_old (o := .cells #[.slice none 0 0] 25) f1
  replace f2 := alloc_old (o := .cells #[.slice none 0 0] 25) f2
  obtain ⟨W3, hW3⟩ : ∃ W, W = W2.alloc (.cells #[.slice none 0 0] 25) := ⟨_, rfl⟩
  have b3 : Below w.heap.size w W3 := by rw [hW3]; exact b2.alloc (by omega) _
  rw [← hW3] at f0 f1 f2 f3 s3
  have f4 := alloc_at (o := .cells #[.float .f64 0] 22) s3
  have s4 := alloc_size (o := .cells #[.float .f64 0] 22) s3
  replace f0 := alloc_old (o := .cells #[.float .f64 0] 22) f0
  replace f1 := alloc_old (o := .cells #[.float .f64 0] 22) f1
  replace f2 := alloc_old (o := .cells #[.float .f64 0] 22) f2
  replace f3 := alloc_old (o := .cells #[.float .f64 0] 22) f3
  obtain ⟨W4, hW4⟩ : ∃ W, W = W3.alloc (.cells #[.float .f64 0] 22) := ⟨_, rfl⟩
  have b4 : Below w.heap.size w W4 := by rw [hW4]; exact b3.alloc (by omega) _
  rw [← hW4] at f0 f1 f2 f3 f4 s4
  have f5 := alloc_at (o := .cells #[.float .f64 0] 22) s4
  have s5 := alloc_size (o := .cells #[.float .f64 0] 22) s4
  replace f0 := alloc_old (o := .cells #[.float .f64 0] 22) f0
  replace f1 := alloc_old (o := .cells #[.float .f64 0] 22) f1
  replace f2 := alloc_old (o := .cells #[.float .f64 0] 22) f2
  replace f3 := alloc_old (o := .cells #[.float .f64 0] 22) f3
  replace f4 := alloc_old (o := .cells #[.float .f64 0] 22) f4
  obtain ⟨W5, hW5⟩ : ∃ W, W = W4.alloc (.cells #[.float .f64 0] 22) := ⟨_, rfl⟩
  have b5 : Below w.heap.size w W5 := by rw [hW5]; exact b4.alloc (by omega) _
  rw [← hW5] at f0 f1 f2 f3 f4 f5 s5
  have f6 := alloc_at (o := .cells #[.float .f64 0] 22) s5
  have s6 := alloc_size (o := .cells #[.float .f64 0] 22) s5
  replace f0 := alloc_old (o := .cells #[.float .f64 0] 22) f0
  replace f1 := alloc_old (o := .cells #[.float .f64 0] 22) f1
  replace f2 := alloc_old (o := .cells #[.float .f64 0] 22) f2
  replace f3 := alloc_old (o := .cells #[.float .f64 0] 22) f3
  replace f4 := alloc_old (o := .cells #[.float .f64 0] 22) f4
  replace f5 := alloc_old (o := .cells #[.float .f64 0] 22) f5
  obtain ⟨W6, hW6⟩ : ∃ W, W = W5.alloc (.cells #[.float .f64 0] 22) := ⟨_, rfl⟩
  have b6 : Below w.heap.size w W6 := by rw [hW6]; exact b5.alloc (by omega) _
  rw [← hW6] at f0 f1 f2 f3 f4 f5 f6 s6
  have f7 := alloc_at (o := .cells #[.bool false] 4) s6
  have s7 := alloc_size (o := .cells #[.bool false] 4) s6
  replace f0 := alloc_old (o := .cells #[.bool false] 4) f0
  replace f1 := alloc_old (o := .cells #[.bool false] 4) f1
  replace f2 := alloc_old (o := .cells #[.bool false] 4) f2
  replace f3 := alloc_old (o := .cells #[.bool false] 4) f3
  replace f4 := alloc_old (o := .cells #[.bool false] 4) f4
  replace f5 := alloc_old (o := .cells #[.bool false] 4) f5
  replace f6 := alloc_old (o := .cells #[.bool false] 4) f6
  obtain ⟨W7, hW7⟩ : ∃ W, W = W6.alloc (.cells #[.bool false] 4) := ⟨_, rfl⟩
  have b7 : Below w.heap.size w W7 := by rw [hW7]; exact b6.alloc (by omega) _
  rw [← hW7] at f0 f1 f2 f3 f4 f5 f6 f7 s7
  -- the bool of quietly
  have f8 := alloc_at (o := .cells #[.bool false] 4) s7
  have s8 := alloc_size (o := .cells #[.bool false] 4) s7
  replace f0 := alloc_old (o := .cells #[.bool false] 4) f0
  replace f1 := alloc_old (o := .cells #[.bool false] 4) f1
  replace f2 := alloc_old (o := .cells #[.bool false] 4) f2
  replace f3 := alloc_old (o := .cells #[.bool false] 4) f3
  replace f4 := alloc_old (o := .cells #[.bool false] 4) f4
  replace f5 := alloc_old (o := .cells #[.bool false] 4) f5
  replace f6 := alloc_old (o := .cells #[.bool false] 4) f6
  replace f7 := alloc_old (o := .cells #[.bool false] 4) f7
  have b8 : Below w.heap.size w (W7.alloc (.cells #[.bool false] 4)) := b7.alloc (by omega) _
  have l8 : LieV (W7.alloc (.cells #[.bool false] 4)) gl vs := fun i hi => b8.cell hgl |>.trans (hv i hi)
  have HIN := mapIn_any K _ _ _ _ _ _ _ _ a g off mult mn mx ra gl cl vs ts _ f0 f1 f2 l8 (by omega) (by omega) hn f3 f4 f5 f6 f7 (by omega) (by omega) (by omega) hmk hacc hlen htold
  have H := quietly_any 12 #[.pointer (some ⟨w.heap.size, 0, none⟩), .pointer (some ⟨w.heap.size + 1, 0, none⟩), .pointer (some ⟨w.heap.size + 1 + 1, 0, none⟩), .pointer (some ⟨w.heap.size + 1 + 1 + 1, 0, none⟩), .pointer (some ⟨w.heap.size + 1 + 1 + 1 + 1, 0, none⟩), .pointer (some ⟨w.heap.size + 1 + 1 + 1 + 1 + 1, 0, none⟩), .pointer (some ⟨w.heap.size + 1 + 1 + 1 + 1 + 1 + 1, 0, none⟩), .pointer (some ⟨w.heap.size + 1 + 1 + 1 + 1 + 1 + 1 + 1, 0, none⟩)] W7
    (fun w1 => (∃ ao cr, TBox w1 (w.heap.size + 1 + 1 + 1) (.slice ao ts.length cr) ts ∧ ∀ b, (Value.slice ao ts.length cr).ownBlock = some b → b ≠ w.heap.size + 1 + 1 + 1 + 1 + 1 + 1 + 1 + 1) ∧ w1.heap[w.heap.size + 1 + 1 + 1 + 1]? = some (.cells #[.float .f64 ra] 22 (0, 0)) ∧ w1.heap[w.heap.size + 1 + 1 + 1 + 1 + 1]? = some (.cells #[.float .f64 mn] 22 (0, 0)) ∧
      w1.heap[w.heap.size + 1 + 1 + 1 + 1 + 1 + 1]? = some (.cells #[.float .f64 mx] 22 (0, 0)) ∧ w1.heap[w.heap.size + 1 + 1 + 1 + 1 + 1 + 1 + 1]? = some (.cells #[.bool true] 4 (0, 0)) ∧ Below w.heap.size w w1)
    (fun w => run_enter Try.func12 (by kernel_rfl) rfl _ w)
    (HIN.mono (by
      rintro e w1 ⟨rfl, ⟨ao, cr, hbx⟩, h4, h5, h6, h7, hfr⟩
      have h8 := hfr.heap f8 (by omega)
      refine ⟨rfl, by rw [s7]; exact h8, ⟨ao, cr, hbx, fun b hb e => ?_⟩, h4, h5, h6, h7, b8.trans (hfr.below (B := w.heap.size) (fun k h => by omega) (by omega))⟩
      obtain ⟨_, hc⟩ := told_tag hbx.2 hb
      rw [e] at hc
      rw [hc] at h8
      cases h8))
  clear HIN f0 f1 f2 f3 f4 f5 f6 f7 f8 s8 b8 l8 s0 s1 s2 s3 s4 s5 s6 b0 b1 b2 b3 b4 b5 b6 l0 hv htold
  go_enter Try.func7, Try.ntmps7
  go_wp2_with fail
  rw [← hW0, ← hW1, ← hW2, ← hW3, ← hW4, ← hW5, ← hW6, ← hW7]
  refine H.mono ?_
  clear H hW0 hW1 hW2 hW3 hW4 hW5 hW6 hW7 hlen
  rintro e w2 ⟨rfl, w1, ⟨⟨ao, cr, hbx, hob⟩, h4, h5, h6, h7, hb⟩, rfl⟩
  rw [s7]
  have e3 := (heap_setCell_other w1 ⟨w.heap.size + 1 + 1 + 1 + 1 + 1 + 1 + 1 + 1, 0, none⟩ (w.heap.size + 1 + 1 + 1) (.bool true) (by dsimp only; omega)).trans hbx.1
  have o3 := ownsRow_setCell_other hbx.2 (a := ⟨w.heap.size + 1 + 1 + 1 + 1 + 1 + 1 + 1 + 1, 0, none⟩) (fun e => hob _ e rfl) (.bool true)
  have e4 := (heap_setCell_other w1 ⟨w.heap.size + 1 + 1 + 1 + 1 + 1 + 1 + 1 + 1, 0, none⟩ _ (.bool true) (by dsimp only; omega)).trans h4
  have e5 := (heap_setCell_other w1 ⟨w.heap.size + 1 + 1 + 1 + 1 + 1 + 1 + 1 + 1, 0, none⟩ _ (.bool true) (by dsimp only; omega)).trans h5
  have e6 := (heap_setCell_other w1 ⟨w.heap.size + 1 + 1 + 1 + 1 + 1 + 1 + 1 + 1, 0, none⟩ _ (.bool true) (by dsimp only; omega)).trans h6
  have e7 := (heap_setCell_other w1 ⟨w.heap.size + 1 + 1 + 1 + 1 + 1 + 1 + 1 + 1, 0, none⟩ _ (.bool true) (by dsimp only; omega)).trans h7
  have hb2 : Below w.heap.size w (w1.setCell ⟨w.heap.size + 1 + 1 + 1 + 1 + 1 + 1 + 1 + 1, 0, none⟩ (.bool true)) := hb.setCell (by dsimp only; omega) _
  clear hbx hob h4 h5 h6 h7 hb s7
  revert e3 o3 e4 e5 e6 e7 hb2
  generalize w1.setCell ⟨w.heap.size + 1 + 1 + 1 + 1 + 1 + 1 + 1 + 1, 0, none⟩ (.bool true) = w3
  intro e3 o3 e4 e5 e6 e7 hb2
  obtain ⟨p3, hp3⟩ : ∃ p, w.heap.size + 1 + 1 + 1 = p := ⟨_, rfl⟩
  obtain ⟨p4, hp4⟩ : ∃ p, p3 + 1 = p := ⟨_, rfl⟩
  obtain ⟨p5, hp5⟩ : ∃ p, p4 + 1 = p := ⟨_, rfl⟩
  obtain ⟨p6, hp6⟩ : ∃ p, p5 + 1 = p := ⟨_, rfl⟩
  obtain ⟨p7, hp7⟩ : ∃ p, p6 + 1 = p := ⟨_, rfl⟩
  rw [hp3] at e3 e4 e5 e6 e7 ⊢
  rw [hp4] at e4 e5 e6 e7 ⊢
  rw [hp5] at e5 e6 e7 ⊢
  rw [hp6] at e6 e7 ⊢
  rw [hp7] at e7 ⊢
  have c3 := cell_of_one e3
  have g3 := free_of_one e3
  have c4 := cell_of_one e4
  have g4 := free_of_one e4
  have c5 := cell_of_one e5
  have g5 := free_of_one e5
  have c6 := cell_of_one e6
  have g6 := free_of_one e6
  have c7 := cell_of_one e7
  have g7 := free_of_one e7
  have hmh : MapHeld p3 p4 p5 p6 p7 (.slice ao ts.length cr) ts ra mn mx w w3 := ⟨e3, e4, e5, e6, e7, o3, fun b hb => by
    obtain ⟨_, hc⟩ := told_tag o3 hb
    exact ⟨tags_ne hc e3 (by decide), tags_ne hc e4 (by decide), tags_ne hc e5 (by decide), tags_ne hc e6 (by decide), tags_ne hc e7 (by decide)⟩, hb2, by omega⟩
  have hms := hmh.drew.told
  clear e3 e4 e5 e6 e7 o3 hb2 hp3 hp4 hp5 hp6 hp7 c3 g3 c4 g4 c5 g5 c6 g6 g7
  have HMH := Lib.hid hmh
  clear hmh
  go_wp2
  go_region_held3 (fun w' => (w'.cell? ⟨p3, 0, none⟩ = some (.slice ao ts.length cr) ∧ w'.cell? ⟨p4, 0, none⟩ = some (.float .f64 ra) ∧ w'.cell? ⟨p5, 0, none⟩ = some (.float .f64 mn) ∧ w'.cell? ⟨p6, 0, none⟩ = some (.float .f64 mx) ∧ w'.cell? ⟨p7, 0, none⟩ = some (.bool true)) ∧ (w'.frozen? ⟨p3, 0, none⟩ = false ∧ w'.frozen? ⟨p4, 0, none⟩ = false ∧ w'.frozen? ⟨p5, 0, none⟩ = false ∧ w'.frozen? ⟨p6, 0, none⟩ = false ∧ w'.frozen? ⟨p7, 0, none⟩ = false) ∧ MapHeld p3 p4 p5 p6 p7 (.slice ao ts.length cr) ts ra mn mx w w')
    (first | (with_reducible exact hms) | (with_reducible exact (MapHeld.drew (MapHeld.set3 HMH.out)).told) | (with_reducible exact (MapHeld.drew (MapHeld.set4 (MapHeld.set3 HMH.out))).told) | (with_reducible exact (MapHeld.drew (MapHeld.set5 (MapHeld.set4 (MapHeld.set3 HMH.out)))).told) | (with_reducible exact (MapHeld.drew (MapHeld.set6 (MapHeld.set5 (MapHeld.set4 (MapHeld.set3 HMH.out))))).told) | (with_reducible exact (MapHeld.drew (MapHeld.set7 (MapHeld.set6 (MapHeld.set5 (MapHeld.set4 (MapHeld.set3 HMH.out)))))).told))
    (fail)
  have hend := (MapHeld.drew (MapHeld.set7 (MapHeld.set6 (MapHeld.set5 (MapHeld.set4 (MapHeld.set3 HMH.out)))))).told
  obtain ⟨⟨r3, r4, r5, r6, r7⟩, -, hfin⟩ := hend
  have HFIN := Lib.hid hfin
  clear hfin hms
  go_wp2
  refine bodyPost_ret (v := .tuple #[.slice ao ts.length cr, .float .f64 ra, .float .f64 mn, .float .f64 mx, .bool true]) (by simp only [results, Try.results7]; simp [go_sem, r3, r4, r5, r6, r7]) rfl ?_
  exact ⟨ao, cr, rfl, HFIN.out.row, HFIN.out.below⟩
end Go.Proofs.Ytgommnmmifgbgaa
end
/-
  Plain laws on floats: what a rounded number reads as, where it is exact; how two floats stand, by their values.
-/
section
namespace Go.Proofs.Ytgommnmmifgbgaa
open Ieee
set_option exponentiation.threshold 3000
set_option linter.unusedSimpArgs false

/-- The value of a number in units of 2^-1074. -/
def sv (s : Bool) (m : Nat) (i : Int) : Int := signed s m (i + 1074).toNat

theorem signed_eq (s : Bool) (m k : Nat) : signed s m k = (if s then -1 else 1) * ((m : Int) * 2 ^ k) := by
  unfold signed
  cases s <;> simp [Nat.shiftLeft_eq]

theorem signed_up (s : Bool) (m k l : Nat) : signed s m (k + l) = signed s m k * 2 ^ l := by
  rw [signed_eq, signed_eq, Int.pow_add]; cases s <;> simp [Int.mul_assoc, Int.neg_mul]

theorem sv_from (s : Bool) (m : Nat) (i base : Int) (h0 : -1074 ≤ base) (h1 : base ≤ i) : sv s m i = signed s m (i - base).toNat * 2 ^ (base + 1074).toNat := by
  unfold sv
  rw [show (i + 1074).toNat = (i - base).toNat + (base + 1074).toNat from by omega, signed_up]

theorem two_pow_pos_int (k : Nat) : (0 : Int) < 2 ^ k := Int.pow_pos (by decide)

theorem cmp_scale (a b : Int) (k : Nat) : compare (a * 2 ^ k) (b * 2 ^ k) = compare a b := by
  have hk := two_pow_pos_int k
  rcases Int.lt_trichotomy a b with h | h | h
  · rw [Int.compare_eq_lt.2 h, Int.compare_eq_lt.2 (Int.mul_lt_mul_of_pos_right h hk)]
  · subst h; simp
  · rw [Int.compare_eq_gt.2 h, Int.compare_eq_gt.2 (Int.mul_lt_mul_of_pos_right h hk)]

theorem order_sv (s t : Bool) (m n : Nat) (i j : Int) (hi : -1074 ≤ i) (hj : -1074 ≤ j) : (Datum.number s m i).order (.number t n j) = some (compare (sv s m i) (sv t n j)) := by
  unfold Datum.order
  have hb : -1074 ≤ min i j := by omega
  rw [sv_from s m i (min i j) hb (by omega), sv_from t n j (min i j) hb (by omega), cmp_scale]

theorem sum_sv (s t : Bool) (m n : Nat) (i j : Int) (hi : -1074 ≤ i) (hj : -1074 ≤ j) : ∃ ns mg b, (Datum.number s m i).sum (.number t n j) = some (.number ns mg b) ∧ -1074 ≤ b ∧ sv ns mg b = sv s m i + sv t n j ∧ (mg = 0 → ns = (s && t)) := by
  refine ⟨_, _, _, rfl, by omega, ?_, ?_⟩
  · have hb : -1074 ≤ min i j := by omega
    rw [sv_from s m i (min i j) hb (by omega), sv_from t n j (min i j) hb (by omega), sv_from _ _ (min i j) (min i j) hb (by omega), ← Int.add_mul]
    congr 1
    rw [Int.sub_self]
    generalize signed s m (i - min i j).toNat + signed t n (j - min i j).toNat = T
    show signed _ _ 0 = T
    rw [signed_eq]
    by_cases h0 : T = 0
    · subst h0; simp
    · by_cases h1 : T < 0 <;> simp [h0, h1] <;> omega
  · intro h
    have : signed s m (i - min i j).toNat + signed t n (j - min i j).toNat = 0 := by omega
    simp [this]

/-- A rung and what it reads as. -/
theorem read_rung (neg : Bool) (a kept : Nat) (ha : a ≤ 2045) (hk : kept ≤ 9007199254740992) (h : 4503599627370496 ≤ kept ∨ a = 0) (hr : a * 4503599627370496 + kept < 2047 * 4503599627370496) :
    ∃ m i, double.read (double.word neg (a * 4503599627370496 + kept)) = .number neg m i ∧ -1074 ≤ i ∧ i ≤ 971 ∧ m < 9007199254740992 ∧ m * 2 ^ (i + 1074).toNat = kept * 2 ^ a := by
  have e1 : double.signWeight = 9223372036854775808 := by decide
  have e2 : double.binade = 4503599627370496 := by decide
  have e3 : double.infRung = 2047 * 4503599627370496 := by decide
  have e4 : double.leastPlace = -1074 := by decide
  have hneg : ((double.word neg (a * 4503599627370496 + kept)) / 9223372036854775808 % 2 == 1) = neg := by
    unfold Format.word
    rw [e1]
    cases neg
    · simp; omega
    · simp; omega
  have hrung : (double.word neg (a * 4503599627370496 + kept)) % 9223372036854775808 = a * 4503599627370496 + kept := by
    unfold Format.word
    rw [e1]
    cases neg
    · simp; omega
    · simp; omega
  unfold Format.read
  rw [e1, e2, e3, e4, hneg, hrung]
  by_cases h1 : a * 4503599627370496 + kept < 4503599627370496
  · have : a = 0 := by omega
    subst this
    refine ⟨kept, -1074, ?_, by omega, by omega, by omega, by simp⟩
    rw [if_pos h1]; simp
  · rw [if_neg h1, if_pos hr]
    by_cases h2 : kept = 9007199254740992
    · subst h2
      refine ⟨4503599627370496, (a : Int) + 1 - 1074, ?_, by omega, by omega, by omega, ?_⟩
      · have f1 : (a * 4503599627370496 + 9007199254740992) % 4503599627370496 = 0 := by omega
        have f2 : (a * 4503599627370496 + 9007199254740992) / 4503599627370496 = a + 2 := by omega
        rw [f1, f2]
        have f3 : (-1074 : Int) + ((a + 2 - 1 : Nat) : Int) = (a : Int) + 1 - 1074 := by omega
        rw [f3]
      · rw [show ((a : Int) + 1 - 1074 + 1074).toNat = a + 1 from by omega, Nat.pow_succ]; omega
    · have f1 : (a * 4503599627370496 + kept) % 4503599627370496 = kept - 4503599627370496 := by omega
      have f2 : (a * 4503599627370496 + kept) / 4503599627370496 = a + 1 := by omega
      refine ⟨kept, (a : Int) - 1074, ?_, by omega, by omega, by omega, ?_⟩
      · have f3 : (-1074 : Int) + ((a + 1 - 1 : Nat) : Int) = (a : Int) - 1074 := by omega
        have f4 : 4503599627370496 + (kept - 4503599627370496) = kept := by omega
        rw [f1, f2, f3, f4]
      · rw [show ((a : Int) - 1074 + 1074).toNat = a from by omega]

theorem cut_exact (neg : Bool) (K d : Nat) (hK : 0 < K) : Toward.even.cut neg (K * 2 ^ d) d = K := by
  have hl : d ≤ (K * 2 ^ d).log2 + 2 := by
    have : d ≤ (K * 2 ^ d).log2 := (Nat.le_log2 (by have := Nat.two_pow_pos d; exact Nat.ne_of_gt (Nat.mul_pos hK this))).2 (Nat.le_mul_of_pos_left _ hK)
    omega
  unfold Toward.cut
  rw [Nat.min_eq_left hl, Nat.one_shiftLeft]
  have h1 : K * 2 ^ d / 2 ^ d = K := Nat.mul_div_cancel _ (Nat.two_pow_pos d)
  have h2 : K * 2 ^ d % 2 ^ d = 0 := Nat.mul_mod_left _ _
  simp only [h1, h2]
  have := Nat.two_pow_pos d
  simp

theorem log2_pow_mul (m k : Nat) (h : 0 < m) : (m * 2 ^ k).log2 = m.log2 + k := by
  have h0 : m * 2 ^ k ≠ 0 := Nat.ne_of_gt (Nat.mul_pos h (Nat.two_pow_pos k))
  refine (Nat.log2_eq_iff h0).2 ⟨?_, ?_⟩
  · rw [Nat.pow_add]; exact Nat.mul_le_mul_right _ (Nat.log2_self_le (Nat.ne_of_gt h))
  · rw [show m.log2 + k + 1 = (m.log2 + 1) + k from by omega, Nat.pow_add]; exact Nat.mul_lt_mul_of_pos_right Nat.lt_log2_self (Nat.two_pow_pos k)

/-- A number that a word has is written as that word. -/
theorem nearest_exact (neg : Bool) (mag : Nat) (place : Int) (K a : Nat) (hp : -1074 ≤ place) (h : mag * 2 ^ (place + 1074).toNat = K * 2 ^ a) (hK : 4503599627370496 ≤ K) (hK2 : K < 9007199254740992) (ha : a ≤ 2045) :
    double.nearest neg mag place = double.word neg (a * 4503599627370496 + K) := by
  have e2 : double.binade = 4503599627370496 := by decide
  have e3 : double.infRung = 2047 * 4503599627370496 := by decide
  have e4 : double.leastPlace = -1074 := by decide
  have hm : 0 < mag := by
    rcases Nat.eq_zero_or_pos mag with h0 | h0
    · subst h0
      have := Nat.two_pow_pos a
      have := Nat.mul_pos (show 0 < K by omega) this
      omega
    · exact h0
  have hlK : K.log2 = 52 := (Nat.log2_eq_iff (by omega)).2 ⟨by omega, by omega⟩
  have hlog : mag.log2 + (place + 1074).toNat = 52 + a := by
    rw [← log2_pow_mul mag _ hm, h, log2_pow_mul K _ (by omega), hlK]
  unfold Format.nearest
  rw [if_neg (by omega), e2, e3, e4]
  have hlast : max (place + (mag.log2 : Int) - (double.fractionBits : Int)) (-1074) = (a : Int) - 1074 := by
    have : (double.fractionBits : Int) = 52 := rfl
    rw [this]; omega
  simp only [hlast]
  have hkept : Toward.even.cut neg (mag <<< (place - ((a : Int) - 1074)).toNat) (((a : Int) - 1074) - place).toNat = K := by
    by_cases hc : place ≤ (a : Int) - 1074
    · rw [show (place - ((a : Int) - 1074)).toNat = 0 from by omega, Nat.shiftLeft_zero]
      have hmk : mag = K * 2 ^ (((a : Int) - 1074) - place).toNat := by
        have : a = (((a : Int) - 1074) - place).toNat + (place + 1074).toNat := by omega
        rw [this, Nat.pow_add, ← Nat.mul_assoc] at h
        have h' := Nat.eq_of_mul_eq_mul_right (Nat.two_pow_pos _) h
        have e : ((((a : Int) - 1074) - place).toNat + (place + 1074).toNat) = a := by omega
        simpa [e] using h'
      rw [hmk]
      exact cut_exact neg K _ (by omega)
    · rw [show (((a : Int) - 1074) - place).toNat = 0 from by omega, Nat.shiftLeft_eq]
      have hmk : mag * 2 ^ (place - ((a : Int) - 1074)).toNat = K := by
        have : (place + 1074).toNat = (place - ((a : Int) - 1074)).toNat + a := by omega
        rw [this, Nat.pow_add, ← Nat.mul_assoc] at h
        exact Nat.eq_of_mul_eq_mul_right (Nat.two_pow_pos _) h
      rw [hmk]
      have := cut_exact neg K 0 (by omega)
      simpa using this
  rw [hkept, show ((a : Int) - 1074 - -1074).toNat = a from by omega, Nat.min_eq_left (by omega)]

/-- .. and reads as that number. -/
theorem nearest_read_exact (neg : Bool) (mag : Nat) (place : Int) (K a : Nat) (hp : -1074 ≤ place) (h : mag * 2 ^ (place + 1074).toNat = K * 2 ^ a) (hK : 4503599627370496 ≤ K) (hK2 : K < 9007199254740992) (ha : a ≤ 2045) :
    ∃ m i, double.read (double.nearest neg mag place) = .number neg m i ∧ -1074 ≤ i ∧ sv neg m i = sv neg mag place := by
  rw [nearest_exact neg mag place K a hp h hK hK2 ha]
  obtain ⟨m, i, h1, h2, _, _, h5⟩ := read_rung neg a K ha (by omega) (.inl hK) (by omega)
  refine ⟨m, i, h1, h2, ?_⟩
  unfold sv
  rw [signed_eq, signed_eq]
  congr 1
  have h6 : m * 2 ^ (i + 1074).toNat = mag * 2 ^ (place + 1074).toNat := by rw [h5, h]
  have h7 := congrArg (Nat.cast : Nat → Int) h6
  rw [Int.natCast_mul, Int.natCast_mul, Int.natCast_pow, Int.natCast_pow] at h7
  exact h7

/-- A whole number below 2^53 is exact. -/
theorem nearest_whole (neg : Bool) (mag : Nat) (place : Int) (N c : Nat) (hp : -1074 ≤ place) (h : mag * 2 ^ (place + 1074).toNat = N * 2 ^ c) (hc : c = 1074) (hN : N < 9007199254740992) :
    ∃ m i, double.read (double.nearest neg mag place) = .number neg m i ∧ -1074 ≤ i ∧ sv neg m i = sv neg mag place := by
  by_cases h0 : N = 0
  · have hm : mag = 0 := by
      rw [h0, Nat.zero_mul] at h
      rcases Nat.mul_eq_zero.1 h with h | h
      · exact h
      · exact absurd h (Nat.ne_of_gt (Nat.two_pow_pos _))
    subst hm
    obtain ⟨m, i, h1, h2, _, _, h5⟩ := read_rung neg 0 0 (Nat.zero_le _) (Nat.zero_le _) (Or.inr (Eq.refl 0)) (by decide)
    refine ⟨m, i, ?_, h2, ?_⟩
    · unfold Format.nearest; rw [if_pos rfl]; simpa using h1
    · have : m = 0 := by
        rw [Nat.zero_mul] at h5
        rcases Nat.mul_eq_zero.1 h5 with h | h
        · exact h
        · exact absurd h (Nat.ne_of_gt (Nat.two_pow_pos _))
      subst this
      unfold sv
      rw [signed_eq, signed_eq]; simp
  · have hl : N.log2 ≤ 52 := by
      have : N.log2 < 53 := (Nat.log2_lt h0).2 (by omega)
      omega
    have hp1 : 2 ^ N.log2 ≤ N := Nat.log2_self_le h0
    have hp2 : N < 2 ^ (N.log2 + 1) := Nat.lt_log2_self
    have q1 : (2 : Nat) ^ 52 = 4503599627370496 := by decide
    refine nearest_read_exact neg mag place (N * 2 ^ (52 - N.log2)) (1074 + N.log2 - 52) hp ?_ ?_ ?_ (by omega)
    · rw [h, Nat.mul_assoc, ← Nat.pow_add]; congr 2; omega
    · rw [← q1, show 52 = N.log2 + (52 - N.log2) from by omega, Nat.pow_add]
      have e : N.log2 + (52 - N.log2) - N.log2 = 52 - N.log2 := by omega
      rw [e]
      exact Nat.mul_le_mul_right _ hp1
    · have e : 9007199254740992 = 2 ^ (N.log2 + 1) * 2 ^ (52 - N.log2) := by
        rw [← Nat.pow_add, show N.log2 + 1 + (52 - N.log2) = 53 from by omega]
      rw [e]
      exact Nat.mul_lt_mul_of_pos_right hp2 (Nat.two_pow_pos _)

/-- What is written is no NaN. -/
theorem nearest_no_nan (neg : Bool) (mag : Nat) (place : Int) : (∃ s m i, double.read (double.nearest neg mag place) = .number s m i ∧ -1074 ≤ i) ∨ ∃ s, double.read (double.nearest neg mag place) = .infinity s := by
  have e1 : double.signWeight = 9223372036854775808 := by decide
  have e2 : double.binade = 4503599627370496 := by decide
  have e3 : double.infRung = 2047 * 4503599627370496 := by decide
  have e4 : double.leastPlace = -1074 := by decide
  obtain ⟨r, hr, hle⟩ : ∃ r, double.nearest neg mag place = double.word neg r ∧ r ≤ 2047 * 4503599627370496 := by
    unfold Format.nearest
    split
    · exact ⟨0, rfl, by omega⟩
    · exact ⟨_, rfl, by rw [e3]; exact Nat.min_le_right _ _⟩
  rw [hr]
  have hrung : (double.word neg r) % 9223372036854775808 = r := by
    unfold Format.word
    rw [e1]
    cases neg
    · simp; omega
    · simp; omega
  unfold Format.read
  rw [e1, e2, e3, e4, hrung]
  dsimp only
  split
  · exact .inl ⟨_, _, _, rfl, by omega⟩
  · split
    · exact .inl ⟨_, _, _, rfl, by omega⟩
    · rw [if_pos (by omega)]; exact .inr ⟨_, rfl⟩

/-- What a word that is a number reads as. -/
theorem read_number {b : Nat} {s : Bool} {m : Nat} {i : Int} (h : double.read b = .number s m i) : -1074 ≤ i ∧ i ≤ 971 ∧ m < 9007199254740992 := by
  have e1 : double.signWeight = 9223372036854775808 := by decide
  have e2 : double.binade = 4503599627370496 := by decide
  have e3 : double.infRung = 2047 * 4503599627370496 := by decide
  have e4 : double.leastPlace = -1074 := by decide
  unfold Format.read at h
  rw [e1, e2, e3, e4] at h
  dsimp only at h
  split at h
  · cases h; omega
  · split at h
    · cases h; omega
    · split at h <;> cases h
end Go.Proofs.Ytgommnmmifgbgaa
end
/-
  Floats by their values: each finite float is a whole number of units of 2^-1074; what +, -, *, / make of these numbers. Plain; fit to be computed.
-/
section
namespace Go.Proofs.Ytgommnmmifgbgaa
open Ieee
set_option exponentiation.threshold 5000

/-- N / G, to the nearest; between two, the even one. -/
def rhe (N G : Nat) : Nat := (2 * N + (G - 1) + N / G % 2) / (2 * G)

theorem rhe_of {N G Q r : Nat} (h : N = Q * G + r) (hr : r < G) : rhe N G = if 2 * r < G ∨ (2 * r = G ∧ Q % 2 = 0) then Q else Q + 1 := by
  have hq : N / G = Q := by
    refine Nat.div_eq_of_lt_le (by omega) ?_
    rw [Nat.add_mul, Nat.one_mul]; omega
  unfold rhe
  rw [hq]
  have e1 : Q * (2 * G) = 2 * (Q * G) := by ac_rfl
  have e2 : (Q + 1) * (2 * G) = 2 * (Q * G) + 2 * G := by rw [Nat.add_mul, Nat.one_mul, e1]
  have e3 : (Q + 1 + 1) * (2 * G) = 2 * (Q * G) + 4 * G := by rw [Nat.add_mul, Nat.one_mul, e2]; omega
  have hm := Nat.mod_lt Q (show 0 < 2 by omega)
  split
  · refine Nat.div_eq_of_lt_le ?_ ?_ <;> omega
  · refine Nat.div_eq_of_lt_le ?_ ?_ <;> omega

theorem rhe_cases (N G : Nat) (hG : 0 < G) : ∃ Q r, N = Q * G + r ∧ r < G ∧ rhe N G = if 2 * r < G ∨ (2 * r = G ∧ Q % 2 = 0) then Q else Q + 1 := by
  have h1 : N = N / G * G + N % G := by rw [Nat.mul_comm]; exact (Nat.div_add_mod N G).symm
  exact ⟨N / G, N % G, h1, Nat.mod_lt _ hG, rhe_of h1 (Nat.mod_lt _ hG)⟩

theorem rhe_scale (N G c : Nat) (hG : 0 < G) (hc : 0 < c) : rhe (c * N) (c * G) = rhe N G := by
  obtain ⟨Q, r, h, hr, e⟩ := rhe_cases N G hG
  have h' : c * N = Q * (c * G) + c * r := by rw [h, Nat.mul_add]; ac_rfl
  have hr' : c * r < c * G := Nat.mul_lt_mul_of_pos_left hr hc
  rw [rhe_of h' hr', e]
  have e1 : (2 * (c * r) < c * G) ↔ (2 * r < G) := by
    rw [show 2 * (c * r) = c * (2 * r) from by ac_rfl]
    exact ⟨fun h => Nat.lt_of_mul_lt_mul_left h, fun h => Nat.mul_lt_mul_of_pos_left h hc⟩
  have e2 : (2 * (c * r) = c * G) ↔ (2 * r = G) := by
    rw [show 2 * (c * r) = c * (2 * r) from by ac_rfl]
    exact ⟨fun h => Nat.eq_of_mul_eq_mul_left hc h, fun h => by rw [h]⟩
  simp only [e1, e2]

theorem rhe_mono {N N' : Nat} (G : Nat) (hG : 0 < G) (h : N ≤ N') : rhe N G ≤ rhe N' G := by
  obtain ⟨Q, r, h1, h2, e⟩ := rhe_cases N G hG
  obtain ⟨Q', r', h1', h2', e'⟩ := rhe_cases N' G hG
  rw [e, e']
  have hQ : Q ≤ Q' := by
    refine Nat.le_of_not_lt fun hl => ?_
    have : (Q' + 1) * G ≤ Q * G := Nat.mul_le_mul_right G hl
    rw [Nat.add_mul, Nat.one_mul] at this
    omega
  rcases Nat.lt_or_eq_of_le hQ with hl | hl
  · split <;> split <;> omega
  · subst hl
    have : r ≤ r' := by omega
    split <;> split <;> omega

/-- A digit for what is left over tells enough. -/
theorem rhe_sticky (N D G : Nat) (hD : 0 < D) (hG : 0 < G) (h2 : G % 2 = 0) : rhe (2 * (N / D) + if N % D = 0 then 0 else 1) (2 * G) = rhe N (D * G) := by
  obtain ⟨w, hw⟩ : ∃ w, w = N % D := ⟨_, rfl⟩
  have hwD : w < D := by rw [hw]; exact Nat.mod_lt _ hD
  have hN : N = D * (N / D) + w := by rw [hw]; exact (Nat.div_add_mod N D).symm
  rw [← hw]
  generalize N / D = u at hN
  obtain ⟨Q, r, h, hr, -⟩ := rhe_cases u G hG
  have h1 : N = Q * (D * G) + (D * r + w) := by rw [hN, h, Nat.mul_add]; rw [show D * (Q * G) = Q * (D * G) from by ac_rfl]; omega
  have hlt : D * r + w < D * G := by
    have : D * (r + 1) ≤ D * G := Nat.mul_le_mul_left D hr
    rw [Nat.mul_add, Nat.mul_one] at this
    omega
  rw [rhe_of h1 hlt]
  have hs : ∀ σ, σ ≤ 1 → 2 * u + σ = Q * (2 * G) + (2 * r + σ) ∧ 2 * r + σ < 2 * G := fun σ hσ => by
    rw [h, show Q * (2 * G) = 2 * (Q * G) from by ac_rfl]; omega
  by_cases h0 : w = 0
  · rw [if_pos h0]
    obtain ⟨a, b⟩ := hs 0 (by omega)
    rw [rhe_of a b]
    subst h0
    have e1 : (2 * (D * r + 0) < D * G) ↔ (2 * r < G) := by
      rw [show 2 * (D * r + 0) = D * (2 * r) from by rw [Nat.add_zero]; ac_rfl]
      exact ⟨fun h => Nat.lt_of_mul_lt_mul_left h, fun h => Nat.mul_lt_mul_of_pos_left h hD⟩
    have e2 : (2 * (D * r + 0) = D * G) ↔ (2 * r = G) := by
      rw [show 2 * (D * r + 0) = D * (2 * r) from by rw [Nat.add_zero]; ac_rfl]
      exact ⟨fun h => Nat.eq_of_mul_eq_mul_left hD h, fun h => by rw [h]⟩
    have e3 : (2 * (2 * r + 0) < 2 * G) ↔ (2 * r < G) := by omega
    have e4 : (2 * (2 * r + 0) = 2 * G) ↔ (2 * r = G) := by omega
    simp only [e1, e2, e3, e4]
  · rw [if_neg h0]
    obtain ⟨a, b⟩ := hs 1 (by omega)
    rw [rhe_of a b]
    by_cases hc : 2 * r + 2 ≤ G
    · have : D * (2 * r + 2) ≤ D * G := Nat.mul_le_mul_left D hc
      rw [Nat.mul_add, show D * (2 * r) = 2 * (D * r) from by ac_rfl] at this
      rw [if_pos (Or.inl (by omega)), if_pos (Or.inl (by omega))]
    · have : D * G ≤ D * (2 * r) := Nat.mul_le_mul_left D (by omega)
      rw [show D * (2 * r) = 2 * (D * r) from by ac_rfl] at this
      rw [if_neg (by omega), if_neg (by omega)]

theorem cut_rhe (neg : Bool) (n D : Nat) : Toward.even.cut neg n D = rhe n (2 ^ D) := by
  have key : ∀ E, Toward.even.cut neg n D = (n / 2 ^ E + (decide (2 ^ E < 2 * (n % 2 ^ E)) || (2 ^ E == 2 * (n % 2 ^ E) && n / 2 ^ E % 2 == 1)).toNat) → (n / 2 ^ E + (decide (2 ^ E < 2 * (n % 2 ^ E)) || (2 ^ E == 2 * (n % 2 ^ E) && n / 2 ^ E % 2 == 1)).toNat) = rhe n (2 ^ E) := by
    intro E _
    have h1 : n = n / 2 ^ E * 2 ^ E + n % 2 ^ E := by rw [Nat.mul_comm]; exact (Nat.div_add_mod n _).symm
    rw [rhe_of h1 (Nat.mod_lt _ (Nat.two_pow_pos E))]
    generalize n / 2 ^ E = q at *
    generalize n % 2 ^ E = r at *
    generalize 2 ^ E = P at *
    have hm := Nat.mod_lt q (show 0 < 2 by omega)
    split
    · rename_i h
      have hb : (decide (P < 2 * r) || (P == 2 * r && q % 2 == 1)) = false := by
        rw [Bool.or_eq_false_iff]
        refine ⟨by simp; omega, ?_⟩
        rcases h with h | ⟨h, h'⟩
        · have : (P == 2 * r) = false := by simp; omega
          rw [this]; rfl
        · rw [h']; simp
      rw [hb]; rfl
    · rename_i h
      have hb : (decide (P < 2 * r) || (P == 2 * r && q % 2 == 1)) = true := by
        rw [Bool.or_eq_true_iff]
        by_cases hp : P < 2 * r
        · exact .inl (by simpa using hp)
        · refine .inr ?_
          rw [Bool.and_eq_true]
          exact ⟨by simp; omega, by simp; omega⟩
      rw [hb]; rfl
  by_cases hD : D ≤ n.log2 + 2
  · have e : Toward.even.cut neg n D = (n / 2 ^ D + (decide (2 ^ D < 2 * (n % 2 ^ D)) || (2 ^ D == 2 * (n % 2 ^ D) && n / 2 ^ D % 2 == 1)).toNat) := by
      unfold Toward.cut
      rw [Nat.min_eq_left hD, Nat.one_shiftLeft]
    rw [e]; exact key D e
  · have hn : n < 2 ^ (n.log2 + 1) := Nat.lt_log2_self
    have h2 : 2 * n < 2 ^ (n.log2 + 2) := by rw [show n.log2 + 2 = (n.log2 + 1) + 1 from rfl, Nat.pow_succ]; omega
    have h3 : 2 ^ (n.log2 + 2) ≤ 2 ^ D := Nat.pow_le_pow_right (by omega) (by omega)
    have e1 : rhe n (2 ^ D) = 0 := by
      rw [rhe_of (Q := 0) (r := n) (by omega) (by omega), if_pos (Or.inl (by omega))]
    rw [e1]
    unfold Toward.cut
    rw [Nat.min_eq_right (by omega), Nat.one_shiftLeft]
    have d0 : n / 2 ^ (n.log2 + 2) = 0 := Nat.div_eq_of_lt (by omega)
    have m0 : n % 2 ^ (n.log2 + 2) = n := Nat.mod_eq_of_lt (by omega)
    simp only [d0, m0]
    have b1 : decide (2 ^ (n.log2 + 2) < 2 * n) = false := by simp; omega
    have b2 : (2 ^ (n.log2 + 2) == 2 * n) = false := by simp; omega
    rw [b1, b2]; rfl

/-- How many places of n (in units of 2^-(1074 + t)) a float lacks. -/
def lack (t n : Nat) : Nat := Nat.add t (Nat.sub (Nat.sub (Nat.log2 n) 52) t)

theorem lack_eq (t n : Nat) : lack t n = max (n.log2 - 52) t := by
  show t + ((n.log2 - 52) - t) = _
  omega

/-- The float nearest to n units of 2^-(1074 + t), in units of 2^-1074. -/
def rndT (t n : Nat) : Nat :=
  Nat.shiftLeft (Nat.shiftRight (Nat.add (Nat.add (Nat.mul 2 n) (Nat.sub (Nat.pow 2 (lack t n)) 1)) (Nat.mod (Nat.shiftRight n (lack t n)) 2)) (Nat.succ (lack t n))) (Nat.sub (lack t n) t)

theorem rndT_eq (t n : Nat) : rndT t n = rhe n (2 ^ lack t n) * 2 ^ (lack t n - t) := by
  show ((2 * n + (2 ^ lack t n - 1) + (n >>> lack t n) % 2) >>> (lack t n + 1)) <<< (lack t n - t) = _
  rw [Nat.shiftLeft_eq, Nat.shiftRight_eq_div_pow, Nat.shiftRight_eq_div_pow]
  unfold rhe
  rw [Nat.pow_succ, Nat.mul_comm (2 ^ lack t n) 2]

theorem rndT_zero (t : Nat) : rndT t 0 = 0 := by
  rw [rndT_eq]
  have : rhe 0 (2 ^ lack t 0) = 0 := by
    rw [rhe_of (Q := 0) (r := 0) (by omega) (Nat.two_pow_pos _), if_pos (Or.inl (by have := Nat.two_pow_pos (lack t 0); omega))]
  rw [this, Nat.zero_mul]

theorem rhe_exact (K d : Nat) : rhe (K * 2 ^ d) (2 ^ d) = K := by
  have := Nat.two_pow_pos d
  rw [rhe_of (Q := K) (r := 0) (by omega) this, if_pos (Or.inl (by omega))]

theorem rhe_range (n d : Nat) (h1 : 2 ^ (52 + d) ≤ n) (h2 : n < 2 ^ (53 + d)) : 4503599627370496 ≤ rhe n (2 ^ d) ∧ rhe n (2 ^ d) ≤ 9007199254740992 := by
  have hp := Nat.two_pow_pos d
  have a1 := rhe_mono (2 ^ d) hp h1
  have a2 := rhe_mono (2 ^ d) hp (Nat.le_of_lt h2)
  rw [Nat.pow_add, rhe_exact] at a1 a2
  exact ⟨a1, a2⟩

/-- What is written is the nearest float. -/
theorem nearest_rnd (neg : Bool) (mag : Nat) (place : Int) (t n : Nat) (hp : 0 ≤ place + 1074 + t) (hn : mag * 2 ^ (place + 1074 + t).toNat = n) (hlt : n.log2 < 2090 + t) :
    ∃ m i, double.read (double.nearest neg mag place) = .number neg m i ∧ -1074 ≤ i ∧ m * 2 ^ (i + 1074).toNat = rndT t n := by
  have e2 : double.binade = 4503599627370496 := by decide
  have e3 : double.infRung = 2047 * 4503599627370496 := by decide
  have e4 : double.leastPlace = -1074 := by decide
  by_cases hm : mag = 0
  · subst hm
    rw [Nat.zero_mul] at hn
    subst hn
    rw [rndT_zero]
    obtain ⟨m, i, h1, h2, _, _, h5⟩ := read_rung neg 0 0 (Nat.zero_le _) (Nat.zero_le _) (Or.inr (Eq.refl 0)) (by decide)
    refine ⟨m, i, ?_, h2, by rw [h5, Nat.zero_mul]⟩
    unfold Format.nearest; rw [if_pos rfl]; simpa using h1
  obtain ⟨k, hk⟩ : ∃ k : Nat, k = (place + 1074 + t).toNat := ⟨_, rfl⟩
  have hpl : place = (k : Int) - 1074 - t := by omega
  rw [← hk] at hn
  have hlog : n.log2 = mag.log2 + k := by rw [← hn]; exact log2_pow_mul mag k (Nat.pos_of_ne_zero hm)
  have hn0 : n ≠ 0 := by rw [← hn]; exact Nat.ne_of_gt (Nat.mul_pos (Nat.pos_of_ne_zero hm) (Nat.two_pow_pos k))
  have hd : lack t n = max (n.log2 - 52) t := lack_eq t n
  have hrd := rndT_eq t n
  generalize lack t n = d at hd hrd
  have hlast : max (place + (mag.log2 : Int) - (double.fractionBits : Int)) double.leastPlace = (d : Int) - 1074 - t := by
    have : (double.fractionBits : Int) = 52 := rfl
    rw [this, e4]; omega
  have hkept : Toward.even.cut neg (mag <<< (k - d)) (d - k) = rhe n (2 ^ d) := by
    rw [cut_rhe, Nat.shiftLeft_eq]
    rcases Nat.le_total d k with h | h
    · rw [show d - k = 0 from by omega, ← hn, show k = (k - d) + d from by omega, Nat.pow_add, ← Nat.mul_assoc, show k - d + d - d = k - d from by omega, rhe_exact]
      have := rhe_exact (mag * 2 ^ (k - d)) 0
      simpa using this
    · rw [show k - d = 0 from by omega, ← hn, Nat.pow_zero, Nat.mul_one]
      have h2 : 2 ^ d = 2 ^ k * 2 ^ (d - k) := by rw [← Nat.pow_add]; congr 1; omega
      rw [h2, Nat.mul_comm mag, rhe_scale _ _ _ (Nat.two_pow_pos _) (Nat.two_pow_pos k)]
  have hr : rhe n (2 ^ d) ≤ 9007199254740992 ∧ (4503599627370496 ≤ rhe n (2 ^ d) ∨ d - t = 0) := by
    by_cases h : n.log2 - 52 ≤ t ∧ n.log2 < 52 + d
    · have hlt2 : n < 2 ^ (52 + d) := (Nat.log2_lt hn0).1 h.2
      have a := rhe_mono (2 ^ d) (Nat.two_pow_pos d) (Nat.le_of_lt hlt2)
      rw [Nat.pow_add, rhe_exact] at a
      have h52 : (2 : Nat) ^ 52 = 4503599627370496 := by decide
      rw [h52] at a
      exact ⟨by omega, .inr (by omega)⟩
    · have h1 : 2 ^ (52 + d) ≤ n := (Nat.le_log2 hn0).1 (by omega)
      have h2 : n < 2 ^ (53 + d) := (Nat.log2_lt hn0).1 (by omega)
      obtain ⟨a, b⟩ := rhe_range n d h1 h2
      exact ⟨b, .inl a⟩
  have hA : d - t ≤ 2038 := by omega
  have hnear : double.nearest neg mag place = double.word neg ((d - t) * 4503599627370496 + rhe n (2 ^ d)) := by
    unfold Format.nearest
    rw [if_neg hm]
    simp only [hlast]
    rw [e2, e3, e4, show (place - ((d : Int) - 1074 - t)).toNat = k - d from by omega, show ((d : Int) - 1074 - t - place).toNat = d - k from by omega, show ((d : Int) - 1074 - t - -1074).toNat = d - t from by omega, hkept]
    rw [Nat.min_eq_left (by omega)]
  rw [hnear]
  obtain ⟨m, i, h1, h2, _, _, h5⟩ := read_rung neg (d - t) (rhe n (2 ^ d)) (by omega) hr.1 hr.2 (by omega)
  exact ⟨m, i, h1, h2, by rw [h5, hrd]⟩
end Go.Proofs.Ytgommnmmifgbgaa
end
