/-
  impl.Store, for every kind of store.
-/
import Derived.Test.YtnmbjalojgccmaaGreatTF
import Derived.Test.YtnmbjalojgccmaaGreatRA
section
namespace Go.Proofs.YtnmbjalojgccmaaGreat
open Go.RowKit

theorem fr_none_of_below {w w' : World} (h : Below w.heap.size w w') : Fr (fun _ => False) w w' := (Fr.of_below h).mono (fun _ hi h2 => absurd hi (Nat.not_lt.2 h2))

set_option maxRecDepth 100000 in
set_option maxHeartbeats 400000 in
theorem store1_any {kind : Int} (K : StoreKind kind) (most : Int) (ao : Option Addr) (cp : Nat) (xs : Bins) (b0 b1 b2 : Nat) (w : World) (hk : knownB kind most = true) (hl : Lie2 w ao (fb xs)) (hr : InR xs) (hp : Pos xs) (ht : tot xs < 1000000000) (hn : xs.length ≤ 60)
   (h0 : w.cell? ⟨b0, 0, none⟩ = some (.int .i64 kind)) (h1 : w.cell? ⟨b1, 0, none⟩ = some (.int .i64 most)) (h2 : w.cell? ⟨b2, 0, none⟩ = some (.slice ao xs.length cp)) :
    Calls Tryz.prog 37 #[.pointer (some ⟨b0, 0, none⟩), .pointer (some ⟨b1, 0, none⟩), .pointer (some ⟨b2, 0, none⟩)] w fun e w' => GivesStore K most xs w e w' := by
  have HF := filled_any K most ao cp xs w hk hl hr hp ht hn
  clear hk hl hr hp ht hn
  go_enter Tryz.func37, Tryz.ntmps37
  go_wp2_with fail
  refine HF.mono ?_
  clear HF
  rintro e w1 ⟨p, S, rfl, hst, hS, hb⟩
  have HST := Lib.hid hst
  have HS := Lib.hid hS
  have HB := Lib.hid hb
  clear hst hS hb h0 h1 h2
  go_wp2
  go_ret2
  exact ⟨p, S, rfl, HST.out, HS.out, fr_none_of_below HB.out⟩

/-- The state, in its own variable. -/
theorem state_out {ks : Bins} {w W w2 : World} {B : Nat} (hFW : Fr (fun _ => False) w W) (hB : w.heap.size ≤ B) (hB2 : B < W.heap.size) {a0 a1 a2 a3 a4 : Value} (hWB : W.heap[B]? = some (.cells #[a0, a1, a2, a3, a4] 38 (0, 0))) {ao : Option Addr} {c : Nat}
   (h1 : w2.ownsRow 0 62 2 (.slice ao ks.length c) ks.length (pc (fb ks))) (h2 : ∀ k, (Value.slice ao ks.length c).ownBlock = some k → W.heap.size ≤ k) (h3 : Below W.heap.size W w2) :
    w2.heap[B]? = some (.cells #[a0, a1, a2, a3, a4] 38 (0, 0)) ∧
    ∀ w3, Fr (fun b => b = B) w2 w3 → w3.ownsRow 0 62 2 (.slice ao ks.length c) ks.length (pc (fb ks)) ∧ (∀ k, (Value.slice ao ks.length c).ownBlock = some k → w.heap.size ≤ k) ∧ Below w.heap.size w w3 := by
  refine ⟨(h3.5 B hB2).trans hWB, fun w3 hf => ⟨hf.owns h1 (fun k hk e => by have := h2 k hk; omega), fun k hk => Nat.le_trans hFW.size (h2 k hk), ?_⟩⟩
  refine Fr.below (S := fun k => w.heap.size ≤ k) ?_ (fun _ h => h) (Nat.le_refl _)
  exact (hFW.trans (fr_none_of_below h3) (U := fun k => w.heap.size ≤ k) (fun _ _ h => h.elim) (fun _ _ h => h.elim)).trans hf (fun _ _ h => h) (fun i _ h => by omega)

set_option maxRecDepth 100000 in
set_option maxHeartbeats 400000 in
theorem store_any {kind : Int} {K : StoreKind kind} (D : ToldKind K) (most : Int) (ao : Option Addr) (cp : Nat) (xs : Bins) (w : World) (hfew : Few kind most xs) (hl : Lie2 w ao (fb xs)) (hn : xs.length ≤ 60) :
    Calls Tryz.prog 18 #[.int .i64 kind, .int .i64 most, .slice ao xs.length cp] w fun e w' => TellsState xs (keptB kind most xs) w e w' := by
  have hmf : ∀ (fn : Fn) (first cap : Array Value) (w : World), (Instr.makeFunc fn first cap).run Tryz.prog w = .ok (.func fn first cap) w := fun _ _ _ _ => rfl
  obtain ⟨W, hW⟩ : ∃ W, W = (((w.alloc (.cells #[.int .i64 kind] 3)).alloc (.cells #[.int .i64 most] 3)).alloc (.cells #[.slice ao xs.length cp] 22)).alloc (.cells #[.slice none 0 0, .float .f64 0, .bool false, .int .i64 0, .int .i64 0] 38) := ⟨_, rfl⟩
  have hWs : W.heap.size = w.heap.size + 4 := by rw [hW]; simp
  have hFW : Fr (fun _ => False) w W := by rw [hW]; exact ((((Fr.refl _ w).alloc _).alloc _).alloc _).alloc _
  have hW0 : W.heap[w.heap.size]? = some (.cells #[.int .i64 kind] 3 (0, 0)) := by
    rw [hW, Below.heap_alloc _ _ _ (by simp <;> omega), Below.heap_alloc _ _ _ (by simp <;> omega), Below.heap_alloc _ _ _ (by simp)]; exact heap_alloc_new w _
  have hW1 : W.heap[w.heap.size + 1]? = some (.cells #[.int .i64 most] 3 (0, 0)) := by
    rw [hW, Below.heap_alloc _ _ _ (by simp <;> omega), Below.heap_alloc _ _ _ (by simp)]
    have := heap_alloc_new (w.alloc (.cells #[.int .i64 kind] 3)) (.cells #[.int .i64 most] 3)
    simpa using this
  have hW2 : W.heap[w.heap.size + 1 + 1]? = some (.cells #[.slice ao xs.length cp] 22 (0, 0)) := by
    rw [hW, Below.heap_alloc _ _ _ (by simp)]
    have := heap_alloc_new ((w.alloc (.cells #[.int .i64 kind] 3)).alloc (.cells #[.int .i64 most] 3)) (.cells #[.slice ao xs.length cp] 22)
    simpa using this
  have hW3 : W.heap[w.heap.size + 1 + 1 + 1]? = some (.cells #[.slice none 0 0, .float .f64 0, .bool false, .int .i64 0, .int .i64 0] 38 (0, 0)) := by
    rw [hW]
    have := heap_alloc_new (((w.alloc (.cells #[.int .i64 kind] 3)).alloc (.cells #[.int .i64 most] 3)).alloc (.cells #[.slice ao xs.length cp] 22)) (.cells #[.slice none 0 0, .float .f64 0, .bool false, .int .i64 0, .int .i64 0] 38)
    simpa using this
  have H := told_any D most xs 37 #[.pointer (some ⟨w.heap.size, 0, none⟩), .pointer (some ⟨w.heap.size + 1, 0, none⟩), .pointer (some ⟨w.heap.size + 1 + 1, 0, none⟩)] W hfew
    (fun w => enters_of Tryz.func37 (by kernel_rfl) rfl _ w)
    (fun W2 hf => store1_any K most ao cp xs _ _ _ W2 hfew.known ((hl.later ((hFW.trans hf (U := fun _ => False) (fun _ _ h => h) (fun _ _ h => h)).below (fun _ h => h.elim) (Nat.le_refl _)))) hfew.inR hfew.pos hfew.tot hn
      (cell_of_row _ _ 0 _ _ _ (hf.heap hW0 (fun h => h))) (cell_of_row _ _ 0 _ _ _ (hf.heap hW1 (fun h => h))) (cell_of_row _ _ 0 _ _ _ (hf.heap hW2 (fun h => h))))
  have HO := fun ao c w2 => @state_out (keptB kind most xs) w W w2 (w.heap.size + 1 + 1 + 1) hFW (by omega) (by omega) _ _ _ _ _ hW3 ao c
  obtain ⟨ks, hks⟩ : ∃ ks, ks = keptB kind most xs := ⟨_, rfl⟩
  rw [← hks] at H HO ⊢
  rw [hW] at H
  have HW := Lib.hid hW
  have HOO := Lib.hid HO
  clear hW hWs hFW hW0 hW1 hW2 hW3 hfew hks hl HO
  go_enter Tryz.func18, Tryz.ntmps18
  go_wp2_with fail
  refine H.mono ?_
  clear H
  rintro e w2 ⟨ao2, c2, rfl, h1, h2, h3⟩
  rw [← HW.out] at h2 h3
  obtain ⟨g1, g2⟩ := HOO.out ao2 c2 w2 h1 h2 h3
  have s5 := state_set5 (.slice ao2 ks.length c2) (.float .f64 (nf (tot xs))) (.bool xs.isEmpty) (.int .i64 (lowE xs ks)) (.int .i64 (topE xs ks)) g1
  have S5 := Lib.hid s5
  have y0 := frozen_of_row w2 (w.heap.size + 1 + 1 + 1) 0 _ _ g1
  have y1 := frozen_of_row w2 (w.heap.size + 1 + 1 + 1) 1 _ _ g1
  have y2 := frozen_of_row w2 (w.heap.size + 1 + 1 + 1) 2 _ _ g1
  have y3 := frozen_of_row w2 (w.heap.size + 1 + 1 + 1) 3 _ _ g1
  have y4 := frozen_of_row w2 (w.heap.size + 1 + 1 + 1) 4 _ _ g1
  obtain ⟨z0, z1, z2, z3, z4⟩ := state_cells g1
  have G2 := Lib.hid g2
  clear g1 g2 s5 h1 h2 h3
  unfold stateV
  go_wp2
  refine bodyPost_ret (v := .tuple #[.agg (stateV ao2 c2 xs ks), .bool true]) (by simp only [results, Tryz.results18, stateV]; simp [go_sem, z0, z1, z2, z3, z4]) rfl ?_
  obtain ⟨a1, a2, a3⟩ := G2.out _ S5.out.2
  exact ⟨ao2, c2, rfl, a1, a2, a3⟩
end Go.Proofs.YtnmbjalojgccmaaGreat
end
