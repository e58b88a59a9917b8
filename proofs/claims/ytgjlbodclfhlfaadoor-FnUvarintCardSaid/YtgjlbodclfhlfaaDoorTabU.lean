/-
  The table of the lengths of numbers' bytes, by their leading zeros.
-/
import Derived.Test.YtgjlbodclfhlfaaDoorEncU
import Derived.Test.YtgjlbodclfhlfaaDoorTab
namespace Go.Proofs.YtgjlbodclfhlfaaDoor
open Go.RowKit

theorem Tryd.zero65 (w : World) : (zeroValue 60).run Tryd.prog w = .ok (.agg (part65 (fun _ => 0) 0)) w := by kernel_rfl
theorem Tryd.info65 : (Tryd.prog.info? 60).map (·.size) = some 65 := by kernel_rfl

/-- How many bytes the greatest number with i leading zeros takes. -/
def lenU (i : Nat) : Nat := (encU 8 (18446744073709551615 / 2 ^ i)).length

/-- The relation at the head of the loop that fills a table: f: what it is filled with. B: the heap's size at the call's beginning. -/
def TabRel (f : Nat → Nat) (w : World) (k : Nat) (wr : World) : Prop :=
  wr.heap[w.heap.size]? = some (.cells (part65 (fun _ => 0) 0) 60 (0, 0)) ∧ wr.heap[w.heap.size + 1]? = some (.cells (part65 f k) 60 (0, 0)) ∧
    (∃ ao n c xs, wr.heap[w.heap.size + 1 + 1 + 1]? = some (.cells #[.slice ao n c] 23 (0, 0)) ∧ wr.ownsRow 0 5 1 (.slice ao n c) xs.length (cu8 xs) ∧ ao ≠ none ∧ ∀ g, (Value.slice ao n c).ownBlock = some g → w.heap.size + 1 + 1 ≤ g) ∧ Below w.heap.size w wr

theorem part65_zero (f : Nat → Nat) : part65 f 0 = part65 (fun _ => 0) 0 := by simp [part65]

theorem TabRel.start (f : Nat → Nat) (w : World) : TabRel f w 0 ((((w.alloc (.cells (part65 (fun _ => 0) 0) 60)).alloc (.cells (part65 (fun _ => 0) 0) 60)).alloc (.cells #[] 5)).alloc (.cells #[.slice (some ⟨w.heap.size + 1 + 1, 0, none⟩) 0 0] 23)) := by
  refine ⟨?_, ?_, ⟨some ⟨w.heap.size + 1 + 1, 0, none⟩, 0, 0, [], ?_, ?_, by simp, ?_⟩, ?_⟩
  · rw [Below.heap_alloc _ _ _ (by simp; omega), Below.heap_alloc _ _ _ (by simp; omega), Below.heap_alloc _ _ _ (by simp)]; exact heap_alloc_new w _
  · rw [part65_zero f, Below.heap_alloc _ _ _ (by simp), Below.heap_alloc _ _ _ (by simp)]
    have := heap_alloc_new (w.alloc (.cells (part65 (fun _ => 0) 0) 60)) (.cells (part65 (fun _ => 0) 0) 60)
    simpa using this
  · have := heap_alloc_new (((w.alloc (.cells (part65 (fun _ => 0) 0) 60)).alloc (.cells (part65 (fun _ => 0) 0) 60)).alloc (.cells #[] 5)) (.cells #[.slice (some ⟨w.heap.size + 1 + 1, 0, none⟩) 0 0] 23)
    simpa using this
  · have := World.ownsRow_made (base := 0) (e := 5) (size := 1) ((w.alloc (.cells (part65 (fun _ => 0) 0) 60)).alloc (.cells (part65 (fun _ => 0) 0) 60)) #[] 0 (Nat.zero_le _) (by decide) rfl
    have h2 := this.alloc (.cells #[.slice (some ⟨w.heap.size + 1 + 1, 0, none⟩) 0 0] 23)
    simpa [cu8] using h2
  · intro g hg; simp [Value.ownBlock] at hg; omega
  · exact ((((Below.refl _ w).alloc (Nat.le_refl _) _).alloc (by simp) _).alloc (by simp; omega) _).alloc (by simp; omega) _

set_option maxRecDepth 100000 in
set_option maxHeartbeats 1000000 in
theorem tabU_any (w : World) :
    Calls Tryd.prog 44 #[] w fun e w' => e = .returned (.agg (part65 lenU 65)) ∧ Below w.heap.size w w' := by
  have hz := Tryd.zero65
  obtain ⟨z, hzz⟩ : ∃ z, z = part65 (fun _ => 0) 0 := ⟨_, rfl⟩
  have hst := TabRel.start lenU w
  rw [← hzz] at hz hst
  have HZ := Lib.hid hzz
  have HS := Lib.hid hst
  clear hzz hst
  go_enter Tryd.func44, Tryd.ntmps44
  go_wp2
  go_loopw [3] (fun i wr => ∃ k : Nat, k ≤ 65 ∧ i = .int .i64 k ∧ TabRel lenU w k wr) (fun i _ => 65 - (intOf i).toNat)
  case atStart => exact ⟨0, by omega, rfl, HS.out⟩
  case round =>
    clear hz HS
    obtain ⟨k, hk, rfl, h1, h2, ⟨ao, n, c, xs, h3, h4, h5, h6⟩, h7⟩ := hrel
    by_cases hlt : k < 65
    · have hc3 := cell_of_one h3
      have hf3 := free_of_one h3
      have hsl := run_slice_upto (P := Tryd.prog) 23 5 Tryd.underlying23 ao n c 0 0 rfl (Nat.zero_le _) Tryd.sizeU8
      obtain ⟨v, hv, hvl, HV⟩ : ∃ v : Nat, (18446744073709551615 : Int) / 2 ^ k = (v : Int) ∧ v < 18446744073709551616 ∧ Hid (v = 18446744073709551615 / 2 ^ k) := by
        refine ⟨18446744073709551615 / 2 ^ k, ?_, Nat.lt_of_le_of_lt (Nat.div_le_self _ _) (by decide), rfl⟩
        simp
      have hbuf := buf_reset (by decide) h3 h4 rfl h5
      obtain ⟨w2, hw2⟩ : ∃ w2, w2 = wr.setCell ⟨w.heap.size + 1 + 1 + 1, 0, none⟩ (.slice ao 0 c) := ⟨_, rfl⟩
      rw [← hw2] at hbuf
      have H := encU_any (w.heap.size + 1 + 1 + 1) _ v [] w2 hvl hbuf (by simp)
      rw [hw2] at H
      have HW2 := Lib.hid hw2
      have HVL := Lib.hid hvl
      have HH := Lib.hid H
      have H1 := Lib.hid h1
      have H2 := Lib.hid h2
      have H3 := Lib.hid h3
      have H4 := Lib.hid h4
      have H6 := Lib.hid h6
      have H7 := Lib.hid h7
      clear h1 h2 h3 h4 h5 h6 h7 hbuf hw2 hvl H
      go_wp2_with fail
      refine HH.out.mono ?_
      rintro e w3 ⟨rfl, r2, ⟨s2, g1, g2, g3⟩, g4, g5⟩
      rw [← HW2.out] at g4 g5
      have f1 : w3.heap[w.heap.size + 1]? = some (.cells (part65 lenU k) 60 (0, 0)) := by
        refine g4.heap ?_ ?_
        · rw [HW2.out, Below.heap_setCell _ _ _ _ (by simp)]; exact H2.out
        · intro h; rcases h with h | h
          · omega
          · have := H6.out _ h; omega
      have f0 : w3.heap[w.heap.size]? = some (.cells (part65 (fun _ => 0) 0) 60 (0, 0)) := by
        refine g4.heap ?_ ?_
        · rw [HW2.out, Below.heap_setCell _ _ _ _ (by simp; omega)]; exact H1.out
        · intro h; rcases h with h | h
          · omega
          · have := H6.out _ h; omega
      have f2 : Below w.heap.size w w3 := by
        have hs := H7.out.size
        have e := H7.out.setCell (p := ⟨w.heap.size + 1 + 1 + 1, 0, none⟩) (by simp; omega) (.slice ao 0 c)
        rw [← HW2.out] at e
        refine e.trans (g4.below (B := w.heap.size) ?_ e.size)
        intro j hj
        rcases hj with hj | hj
        · omega
        · have := H6.out _ hj; omega
      obtain ⟨ao2, n2, c2, rfl⟩ := owns_slice g2
      have hn2 := owns_len g2
      have hlen := (encU_len1 8 v).1
      have f3 : ao2 ≠ none := by
        intro e; subst e
        rcases g2.2 with ⟨_, h⟩ | ⟨_, _, _, h, _⟩
        · simp only [List.nil_append] at h; omega
        · cases h
      have f4 : ∀ g, (Value.slice ao2 n2 c2).ownBlock = some g → w.heap.size + 1 + 1 ≤ g := by
        intro g hg
        rw [g3] at hg
        rcases g5 with h | ⟨j, h, hj⟩
        · rw [h] at hg; exact H6.out _ hg
        · rw [h] at hg; cases hg
          have := H7.out.size
          rw [HW2.out] at hj
          have h4 := lt_of_block H3.out
          simp at hj
          omega
      have f5 : n2 = lenU k := by
        rw [hn2, HV.out]; rfl
      have g : TabRel lenU w (k + 1) (w3.setCell ⟨w.heap.size + 1, k, none⟩ (.int .i64 (n2 : Int))) := by
        refine ⟨?_, ?_, ⟨ao2, n2, c2, [] ++ encU 8 v, ?_, ?_, f3, f4⟩, f2.setCell (by simp) _⟩
        · rw [Below.heap_setCell _ _ _ _ (by simp)]; exact f0
        · rw [heap_setCell_same _ _ _ _ _ _ f1, f5, part65_step]
        · rw [Below.heap_setCell _ _ _ _ (by simp; omega)]; exact g1
        · refine ownsRow_setCell_other g2 ?_ _
          intro h; have := f4 _ h; simp at this; omega
      have hce := cell_of_row w3 (w.heap.size + 1) k _ _ _ f1
      rw [part65_get _ _ _ hlt] at hce
      have hfe := frozen_of_row w3 (w.heap.size + 1) k _ _ f1
      have hcb := cell_of_one g1
      have G := Lib.hid g
      clear f0 f1 f2 f3 f4 f5 g g1 g2 g3 g4 g5 hn2 hlen
      go_wp2
      go_roundw
      case rel => exact ⟨k + 1, by omega, by go_num, G.out⟩
      case measure => simp [intOf]; omega
    · have hk65 : k = 65 := by omega
      subst hk65
      clear hlt hk h3 h4 h5 h6
      have H2 := Lib.hid h2
      have H1 := Lib.hid h1
      have H7 := Lib.hid h7
      clear h1 h2 h7
      go_wp2_with (first
        | (refine wpList_load_row rfl 60 _ rfl (w.heap.size + 1) rfl 60 (part65 lenU 65) (0, 0) _ H2.out Tryd.underlying60 rfl (by rw [part65_size]; exact Tryd.info65) ?_)
        | (refine wpList_store_row rfl 60 _ _ rfl w.heap.size (part65 lenU 65) rfl rfl 60 (part65 (fun _ => 0) 0) H1.out (by rw [part65_size]; exact Tryd.info65) (by rw [part65_size, part65_size]) (part65_one _ _) ?_))
      have hr := setRow_heap wr w.heap.size _ (part65 lenU 65) _ _ H1.out
      refine bodyPost_ret (v := .agg (part65 lenU 65)) (results_cell_row (fn := Tryd.f44) rfl _ _ w.heap.size 60 (part65 lenU 65) (0, 0) _ rfl hr Tryd.underlying60 rfl (by rw [part65_size]; exact Tryd.info65)) rfl ⟨rfl, ?_⟩
      exact H7.out.trans ⟨rfl, rfl, rfl, by simp, fun j hj => setRow_other wr w.heap.size j _ (by omega)⟩
end Go.Proofs.YtgjlbodclfhlfaaDoor
