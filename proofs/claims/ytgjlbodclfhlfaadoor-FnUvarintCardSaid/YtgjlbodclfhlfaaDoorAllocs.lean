/-
  Plain: several new blocks, one behind the other.
-/
import Derived.Test.YtgjlbodclfhlfaaDoorFrame
namespace Go.Proofs.YtgjlbodclfhlfaaDoor
open Go.RowKit

/-- New blocks, one behind the other. -/
def allocs : World → List Obj → World
  | w, [] => w
  | w, o :: os => allocs (w.alloc o) os

theorem allocs_size : ∀ (os : List Obj) (w : World), (allocs w os).heap.size = w.heap.size + os.length
  | [], w => by simp [allocs]
  | o :: os, w => by rw [allocs, allocs_size os]; simp; omega

theorem allocs_old : ∀ (os : List Obj) (w : World) (k : Nat), k < w.heap.size → (allocs w os).heap[k]? = w.heap[k]?
  | [], _, _, _ => rfl
  | o :: os, w, k, h => by rw [allocs, allocs_old os _ k (by simp; omega), Below.heap_alloc _ _ _ h]

theorem allocs_new : ∀ (os : List Obj) (w : World) (i : Nat), i < os.length → (allocs w os).heap[w.heap.size + i]? = os[i]?
  | o :: os, w, 0, _ => by
    rw [allocs, Nat.add_zero, allocs_old os _ _ (by simp), heap_alloc_new]; rfl
  | o :: os, w, i + 1, h => by
    have := allocs_new os (w.alloc o) i (by simpa using h)
    rw [World.size_alloc] at this
    rw [allocs, show w.heap.size + (i + 1) = w.heap.size + 1 + i from by omega, this]; rfl

theorem allocs_fr : ∀ (os : List Obj) (w : World), Fr (fun _ => False) w (allocs w os)
  | [], w => Fr.refl _ w
  | o :: os, w => ((Fr.refl _ w).alloc o).trans (allocs_fr os _) (fun _ _ h => h) (fun _ _ h => h)

theorem allocs_below (os : List Obj) (w : World) : Below w.heap.size w (allocs w os) := (allocs_fr os w).below (fun _ h => h.elim) (Nat.le_refl _)
end Go.Proofs.YtgjlbodclfhlfaaDoor
