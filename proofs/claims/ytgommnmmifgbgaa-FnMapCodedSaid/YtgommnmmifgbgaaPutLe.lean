/-
  lePutUint64: a number's eight bytes, the lowest first, into a row of the call's own.
-/
import Derived.Test.YtgommnmmifgbgaaZeros
import Derived.Test.YtgommnmmifgbgaaProg
namespace Go.Proofs.Ytgommnmmifgbgaa
open Go.RowKit

theorem owns_set {w : World} {e : TypeId} {g n cap : Nat} {xs : List Value} (h : w.ownsRow 0 e 1 (.slice (some ⟨g, 0, none⟩) n cap) n xs) (i : Nat) (u : Value) :
    (w.setCell ⟨g, i, none⟩ u).ownsRow 0 e 1 (.slice (some ⟨g, 0, none⟩) n cap) n (xs.set i u) := by
  obtain ⟨h1, h2⟩ := h
  rcases h2 with ⟨h2, _⟩ | ⟨g', cap', cur, hv, hb, hg, hn, hm, hs, ht⟩
  · cases h2
  · cases hv
    refine ⟨by simpa using h1, .inr ⟨g, cap, cur.setIfInBounds i u, rfl, hb, heap_setCell_same w g i cur e u hg, hn, hm, by simpa using hs, ?_⟩⟩
    rw [Array.toList_setIfInBounds, List.take_set, ht]

/-- The first i of a number's bytes, the lowest first. -/
def leB (v i : Nat) : List Nat := (List.range i).map fun j => v / 2 ^ (8 * j) % 256
theorem leB_succ (v i : Nat) : leB v (i + 1) = leB v i ++ [v / 2 ^ (8 * i) % 256] := by simp [leB, List.range_succ]
theorem leB_len (v i : Nat) : (leB v i).length = i := by simp [leB]

def PutRel (v g cap c : Nat) (pre : List Nat) (w wr : World) (i : Value) : Prop :=
  ∃ k : Nat, k ≤ 8 ∧ i = .int .i64 k ∧ wr.ownsRow 0 5 1 (.slice (some ⟨g, 0, none⟩) (pre.length + 8) cap) (pre.length + 8) (cu8 (pre ++ leB v k ++ List.replicate (8 - k) 0)) ∧ Fr (fun b => b = g) w wr ∧ c = c

set_option maxRecDepth 100000 in
set_option maxHeartbeats 400000 in
theorem putLe_any (v g cap c : Nat) (pre : List Nat) (w : World) (hown : w.ownsRow 0 5 1 (.slice (some ⟨g, 0, none⟩) (pre.length + 8) cap) (pre.length + 8) (cu8 (pre ++ List.replicate 8 0))) :
    Calls Try.prog 102 #[.slice (some ⟨g, pre.length, none⟩) 8 c, .int .u64 v] w fun e w' => e = .returned (.tuple #[]) ∧
      w'.ownsRow 0 5 1 (.slice (some ⟨g, 0, none⟩) (pre.length + 8) cap) (pre.length + 8) (cu8 (pre ++ leB v 8)) ∧ Fr (fun b => b = g) w w' := by
  have h7 : w.cell? ⟨g, pre.length + 7, none⟩ = some (.int .u8 0) := by
    have h := hown.cells (g := g) rfl (pre.length + 7) (.int .u8 0) (by rw [cu8_append, List.getElem?_append_right (by simp [cu8])]; simp [cu8])
    simpa [Addr.add] using h
  have H := Lib.hid hown
  clear hown
  go_enter Try.func102, Try.ntmps102
  go_wp2
  go_loopw [4] (fun i wr => PutRel v g cap c pre w wr i) (fun i _ => 8 - (intOf i).toNat)
  case atStart => exact ⟨0, by omega, rfl, by simpa [leB] using H.out, Fr.refl _ _, rfl⟩
  case round =>
    obtain ⟨k, hk, rfl, hown, hfr, -⟩ := hrel
    by_cases h8 : k < 8
    · have hk0 : (0 : Int) ≤ (k : Int) := by omega
      have hk8 : (k : Int) < 8 := by omega
      have hidx : (cu8 (pre ++ leB v k ++ List.replicate (8 - k) 0))[pre.length + k]? = some (.int .u8 0) := by
        obtain ⟨j, hj⟩ : ∃ j, 8 - k = j + 1 := ⟨7 - k, by omega⟩
        rw [cu8_append, List.getElem?_append_right (by simp [cu8, leB_len]), show pre.length + k - (cu8 (pre ++ leB v k)).length = 0 from by simp [cu8, leB_len], hj]
        rfl
      have hcell : wr.cell? ⟨g, pre.length + k, none⟩ = some (.int .u8 0) := by
        have h := hown.cells (g := g) rfl (pre.length + k) (.int .u8 0) hidx
        have hadd : (⟨g, 0, none⟩ : Addr).add (pre.length + k) = ⟨g, pre.length + k, none⟩ := by unfold Addr.add; split <;> simp_all
        rwa [hadd] at h
      have hfz : wr.frozen? ⟨g, pre.length + k, none⟩ = false := by
        rcases hown.2 with ⟨h2, _⟩ | ⟨g', cap', cur, hv', _, hg, _⟩
        · cases h2
        · cases hv'; exact frozen_of_row wr g _ cur _ hg
      have HO := Lib.hid hown
      have HF := Lib.hid hfr
      clear hown hfr hidx
      go_wp2
      refine ⟨⟨k + 1, by omega, rfl, ?_, HF.out.setCell (fun _ => rfl) _, rfl⟩, by simp [intOf]; omega⟩
      have h := owns_set HO.out (pre.length + k) (.int .u8 ((v : Int) / 2 ^ (8 * k) % 256))
      have e : (cu8 (pre ++ leB v k ++ List.replicate (8 - k) 0)).set (pre.length + k) (.int .u8 ((v : Int) / 2 ^ (8 * k) % 256)) = cu8 (pre ++ leB v (k + 1) ++ List.replicate (8 - (k + 1)) 0) := by
        obtain ⟨j, hj⟩ : ∃ j, 8 - k = j + 1 := ⟨7 - k, by omega⟩
        have hb : (Value.int .u8 ((v : Int) / 2 ^ (8 * k) % 256)) = .int .u8 ((v / 2 ^ (8 * k) % 256 : Nat) : Int) := by simp
        rw [hb, leB_succ, hj, show 8 - (k + 1) = j from by omega, List.replicate_succ, ← List.append_assoc, cu8_append, cu8_append, cu8_append, List.set_append_right _ _ (by simp [cu8, leB_len])]
        simp [cu8, leB_len]
      rw [e] at h
      exact h
    · have hk8 : ¬ (k : Int) < 8 := by omega
      obtain rfl : k = 8 := by omega
      have HO := Lib.hid hown
      have HF := Lib.hid hfr
      clear hown hfr
      go_wp2
      go_end0
      exact ⟨rfl, by simpa using HO.out, HF.out⟩
end Go.Proofs.Ytgommnmmifgbgaa
