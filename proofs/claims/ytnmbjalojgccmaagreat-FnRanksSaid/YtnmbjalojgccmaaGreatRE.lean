/-
  impl.Ranks, for every kind of store.
-/
import Derived.Test.YtnmbjalojgccmaaGreatRA
import Derived.Test.YtnmbjalojgccmaaGreatRB
section
namespace Go.Proofs.YtnmbjalojgccmaaGreat
open Go.RowKit

/-- It hands back the keys of the ranks, in a new row. -/
def GivesKeys (ks : List Int) (w : World) (e : Ending) (w' : World) : Prop :=
  ∃ ao c, e = .returned (.tuple #[.slice ao ks.length c, .bool true]) ∧ w'.ownsRow 0 3 1 (.slice ao ks.length c) ks.length (ks.map (Value.int .i64)) ∧ Below w.heap.size w w'

def RanksIn (ks : List Int) (bk : Nat) (W w1 : World) : Prop := ∃ ao c, KeysBox w1 bk (.slice ao ks.length c) ks ∧ Fr (fun b => b = bk) W w1

set_option maxRecDepth 100000 in
set_option maxHeartbeats 800000 in
theorem ranks_any {kind : Int} (K : StoreKind kind) (most : Int) (ao : Option Addr) (cp : Nat) (xs : Bins) (ar : Option Addr) (cr : Nat) (rs : List Nat) (w : World) (hk : knownB kind most = true) (hl : Lie2 w ao (fb xs)) (hr : InR xs) (hp : Pos xs) (ht : tot xs < 1000000000) (hn : xs.length ≤ 60)
   (hrs : LieF w ar rs) (hrn : rs.length ≤ 2147483647) (hok : ∀ r ∈ rs, RankOk (tot xs) r) :
    Calls Tryz.prog 16 #[.int .i64 kind, .int .i64 most, .slice ao xs.length cp, .slice ar rs.length cr] w fun e w' => GivesKeys (rs.map fun r => keyF r 0 (keptB kind most xs)) w e w' := by
  have hmf : ∀ (fn : Fn) (first cap : Array Value) (w : World), (Instr.makeFunc fn first cap).run Tryz.prog w = .ok (.func fn first cap) w := fun _ _ _ _ => rfl
  obtain ⟨ks, hks⟩ : ∃ ks, ks = rs.map fun r => keyF r 0 (keptB kind most xs) := ⟨_, rfl⟩
  have hkl : ks.length = rs.length := by rw [hks, List.length_map]
  obtain ⟨W, hW⟩ : ∃ W, W = ((((w.alloc (.cells #[.int .i64 kind] 3)).alloc (.cells #[.int .i64 most] 3)).alloc (.cells #[.slice ao xs.length cp] 22)).alloc (.cells #[.slice ar rs.length cr] 23)).alloc (.cells #[.slice none 0 0] 32) := ⟨_, rfl⟩
  have hWs : W.heap.size = w.heap.size + 5 := by rw [hW]; simp
  have hFW : Fr (fun _ => False) w W := by rw [hW]; exact (((((Fr.refl _ w).alloc _).alloc _).alloc _).alloc _).alloc _
  have hW0 : W.heap[w.heap.size]? = some (.cells #[.int .i64 kind] 3 (0, 0)) := by
    rw [hW, Below.heap_alloc _ _ _ (by simp <;> omega), Below.heap_alloc _ _ _ (by simp <;> omega), Below.heap_alloc _ _ _ (by simp <;> omega), Below.heap_alloc _ _ _ (by simp)]; exact heap_alloc_new w _
  have hW1 : W.heap[w.heap.size + 1]? = some (.cells #[.int .i64 most] 3 (0, 0)) := by
    rw [hW, Below.heap_alloc _ _ _ (by simp <;> omega), Below.heap_alloc _ _ _ (by simp <;> omega), Below.heap_alloc _ _ _ (by simp)]
    have := heap_alloc_new (w.alloc (.cells #[.int .i64 kind] 3)) (.cells #[.int .i64 most] 3)
    simpa using this
  have hW2 : W.heap[w.heap.size + 1 + 1]? = some (.cells #[.slice ao xs.length cp] 22 (0, 0)) := by
    rw [hW, Below.heap_alloc _ _ _ (by simp), Below.heap_alloc _ _ _ (by simp)]
    have := heap_alloc_new ((w.alloc (.cells #[.int .i64 kind] 3)).alloc (.cells #[.int .i64 most] 3)) (.cells #[.slice ao xs.length cp] 22)
    simpa using this
  have hW3 : W.heap[w.heap.size + 1 + 1 + 1]? = some (.cells #[.slice ar rs.length cr] 23 (0, 0)) := by
    rw [hW, Below.heap_alloc _ _ _ (by simp)]
    have := heap_alloc_new (((w.alloc (.cells #[.int .i64 kind] 3)).alloc (.cells #[.int .i64 most] 3)).alloc (.cells #[.slice ao xs.length cp] 22)) (.cells #[.slice ar rs.length cr] 23)
    simpa using this
  have hW4 : W.heap[w.heap.size + 1 + 1 + 1 + 1]? = some (.cells #[.slice none 0 0] 32 (0, 0)) := by
    rw [hW]
    have := heap_alloc_new ((((w.alloc (.cells #[.int .i64 kind] 3)).alloc (.cells #[.int .i64 most] 3)).alloc (.cells #[.slice ao xs.length cp] 22)).alloc (.cells #[.slice ar rs.length cr] 23)) (.cells #[.slice none 0 0] 32)
    simpa using this
  have hal : ∀ k, k < W.heap.size → (W.alloc (.cells #[.bool false] 4)).heap[k]? = W.heap[k]? := fun k hk => Below.heap_alloc _ _ _ hk
  have hbelow : Below w.heap.size w (W.alloc (.cells #[.bool false] 4)) := (hFW.alloc _).below (fun _ h => h.elim) (Nat.le_refl _)
  have hlag : ∀ g off, ar = some ⟨g, off, none⟩ → 0 < rs.length → g < w.heap.size := fun g off e h0 => by
    rcases hrs with h | ⟨g2, off2, e2, h⟩
    · rw [h] at h0; simp at h0
    · rw [e] at e2; cases e2
      exact World.block_lt_of_cell? w _ (h 0 h0)
  have H := quietly_any 34 #[.pointer (some ⟨w.heap.size, 0, none⟩), .pointer (some ⟨w.heap.size + 1, 0, none⟩), .pointer (some ⟨w.heap.size + 1 + 1, 0, none⟩), .pointer (some ⟨w.heap.size + 1 + 1 + 1, 0, none⟩), .pointer (some ⟨w.heap.size + 1 + 1 + 1 + 1, 0, none⟩)] W
    (RanksIn ks (w.heap.size + 1 + 1 + 1 + 1) (W.alloc (.cells #[.bool false] 4)))
    (fun w => enters_of Tryz.func34 (by kernel_rfl) rfl _ w)
    ((ranks1_any K most ao cp xs ar cr rs w.heap.size (w.heap.size + 1) (w.heap.size + 1 + 1) (w.heap.size + 1 + 1 + 1) (w.heap.size + 1 + 1 + 1 + 1) (W.alloc (.cells #[.bool false] 4)) hk (hl.later hbelow) hr hp ht hn
      (cell_of_row _ _ 0 _ _ _ ((hal _ (by omega)).trans hW0)) (cell_of_row _ _ 0 _ _ _ ((hal _ (by omega)).trans hW1)) (cell_of_row _ _ 0 _ _ _ ((hal _ (by omega)).trans hW2)) (cell_of_row _ _ 0 _ _ _ ((hal _ (by omega)).trans hW3))
      (hrs.fr (hFW.alloc _) (fun _ _ _ h => h)) (fun h0 g off e => by have := hlag g off e h0; exact ⟨by simp; omega, by omega⟩) hrn hok ((hal _ (by omega)).trans hW4) (by omega)).mono ?h4)
  case h4 =>
    rintro e w1 ⟨rfl, a1, c1, h1, h2⟩
    refine ⟨rfl, h2.heap (heap_alloc_new W _) (by omega), a1, c1, ?_, h2⟩
    rw [hkl, hks]; exact h1
  have HFW := Lib.hid hFW
  rw [hW] at H
  have HW := Lib.hid hW
  have HWs := Lib.hid hWs
  have HKS := Lib.hid hks
  clear hW hWs hFW hW0 hW1 hW2 hW3 hW4 hal hbelow hlag hl hr hp ht hrs hok hk hks hkl
  go_enter Tryz.func16, Tryz.ntmps16
  go_wp2_with fail
  refine H.mono ?_
  clear H
  rintro e w2 ⟨rfl, w1, ⟨a1, c1, ⟨q1, q2⟩, q4⟩, hw2⟩
  rw [← HW.out] at q4 hw2
  have hWs := HWs.out
  have hsz := q4.size
  simp at hsz
  have hown0 : ∀ k, (Value.slice a1 ks.length c1).ownBlock = some k → k ≠ W.heap.size := fun k hk e => by
    have h9 := q4.heap (heap_alloc_new W (.cells #[.bool false] 4)) (show ¬ W.heap.size = w.heap.size + 1 + 1 + 1 + 1 from by omega)
    obtain ⟨_, hc⟩ := owns_tag q2 hk
    exact tag_ne hc h9 (by decide) e
  have hbox : KeysBox w1 (w.heap.size + 1 + 1 + 1 + 1) (.slice a1 ks.length c1) ks := ⟨q1, q2⟩
  have g1 : w2.heap[w.heap.size + 1 + 1 + 1 + 1]? = some (.cells #[.slice a1 ks.length c1] 32 (0, 0)) := by rw [hw2, Below.heap_setCell _ _ _ _ (by simp; omega)]; exact q1
  have g2 : w2.ownsRow 0 3 1 (.slice a1 ks.length c1) ks.length (ks.map (Value.int .i64)) := by
    rw [hw2]; exact ownsRow_setCell_other q2 (fun e => hown0 _ e rfl) _
  have hnb := hbox.ne
  have g4 : Below w.heap.size w w2 := by
    rw [hw2]
    refine (Fr.below (S := fun k => w.heap.size ≤ k) ?_ (fun _ h => h) (Nat.le_refl _)).setCell (by simp; omega) _
    exact (HFW.out.alloc _).trans q4 (fun _ _ h => h.elim) (fun i hi h => by omega)
  have c4 := cell_of_one g1
  have f4 := free_of_one g1
  have hend : ∀ u : Value, (w2.setCell ⟨w.heap.size + 1 + 1 + 1 + 1, 0, none⟩ u).ownsRow 0 3 1 (.slice a1 ks.length c1) ks.length (ks.map (Value.int .i64)) ∧ Below w.heap.size w (w2.setCell ⟨w.heap.size + 1 + 1 + 1 + 1, 0, none⟩ u) := fun u =>
    ⟨ownsRow_setCell_other g2 (fun e => hnb _ e rfl) _, g4.setCell (by simp; omega) _⟩
  have c5 := cell_of_one (one_setCell (u := .slice a1 ks.length c1) g1)
  have HEND := Lib.hid hend
  clear q1 q2 q4 hw2 hsz g1 g2 g4 hown0 hbox hnb hend HFW hWs
  go_wp2
  refine bodyPost_ret (v := .tuple #[.slice a1 ks.length c1, .bool true]) (by simp only [results, Tryz.results16]; simp [go_sem, c5]) rfl ?_
  rw [← HKS.out]
  exact ⟨a1, c1, rfl, (HEND.out _).1, (HEND.out _).2⟩
end Go.Proofs.YtnmbjalojgccmaaGreat
end
