/-
  Plain: an array of 65 numbers, filled from its head on; and what a buffer is behind b = b[:0].
-/
import Derived.Test.YtgjlbodclfhlfaaDoorFrame
import Derived.Laws.Tables
namespace Go.Proofs.YtgjlbodclfhlfaaDoor
open Go.RowKit

/-- 65 numbers, of which the first k are f's and the others nought. -/
def part65 (f : Nat → Nat) (k : Nat) : Array Value := (Array.range 65).map fun i => Value.int .i64 ((if i < k then f i else 0 : Nat) : Int)

theorem part65_size (f : Nat → Nat) (k : Nat) : (part65 f k).size = 65 := by simp [part65]

theorem part65_get (f : Nat → Nat) (k i : Nat) (h : i < 65) : (part65 f k)[i]? = some (.int .i64 ((if i < k then f i else 0 : Nat) : Int)) := by
  simp [part65, h]

theorem part65_step (f : Nat → Nat) (k : Nat) : (part65 f k).setIfInBounds k (.int .i64 (f k : Int)) = part65 f (k + 1) := by
  apply Array.ext
  · simp [part65]
  · intro i h1 h2
    rw [Array.getElem_setIfInBounds (by simpa using h1)]
    by_cases e : k = i
    · subst e; simp [part65]
    · rw [if_neg e]
      simp only [part65, Array.getElem_map, Array.getElem_range]
      by_cases h : i < k
      · rw [if_pos h, if_pos (by omega)]
      · rw [if_neg h, if_neg (by omega)]

theorem part65_one (f : Nat → Nat) (k : Nat) : (part65 f k).all (·.oneCell') = true := by
  rw [Array.all_eq_true]
  intro i h
  simp [part65, Value.oneCell']

/-- b = b[:0]. -/
theorem buf_reset {tS tE : TypeId} (hne : tS ≠ tE) {w : World} {p : Nat} {r : Option Nat} {xs : List Nat} {ao : Option Addr} {n c : Nat} (hcell : w.heap[p]? = some (.cells #[.slice ao n c] tS (0, 0)))
    (hown : w.ownsRow 0 tE 1 (.slice ao n c) xs.length (cu8 xs)) (hr : (Value.slice ao n c).ownBlock = r) (hc : ao ≠ none) : Buf tS tE (w.setCell ⟨p, 0, none⟩ (.slice ao 0 c)) p r [] := by
  refine ⟨.slice ao 0 c, one_setCell hcell, ?_, by rw [← hr]; cases ao <;> rfl⟩
  have hpr := buf_apart hne hcell hown
  refine ownsRow_setCell_other (v := .slice ao 0 c) ?_ (by cases ao with | none => exact absurd rfl hc | some a => exact hpr) _
  rcases hown.2 with ⟨h1, _⟩ | ⟨g, cap, cur, h1, _, hh, hn, hm, hs, _⟩
  · cases h1; exact absurd rfl hc
  · cases h1
    exact ⟨by simp [cu8], .inr ⟨g, c, cur, rfl, Nat.zero_le _, hh, Nat.zero_le _, hm, hs, by simp [cu8]⟩⟩
end Go.Proofs.YtgjlbodclfhlfaaDoor
