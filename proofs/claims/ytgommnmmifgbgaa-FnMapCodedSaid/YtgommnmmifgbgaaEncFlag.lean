/-
  EncodeFlag appends the flag's byte.
-/
import Derived.Test.YtgommnmmifgbgaaEncU
import Derived.Deep.RegionLaw
namespace Go.Proofs.Ytgommnmmifgbgaa
open Go.RowKit

set_option maxRecDepth 100000 in
set_option maxHeartbeats 400000 in
theorem encFlag_any (p : Nat) (r : Option Nat) (f : Nat) (xs : List Nat) (w : World)
   (hb : Buf 36 5 w p r xs) (hn : xs.length < 1000000000) :
    Calls Try.prog 99 #[.pointer (some ⟨p, 0, none⟩), .agg #[.int .u8 f]] w fun e w' => e = .returned (.tuple #[]) ∧ GrewTo 36 5 w w' p r (xs ++ [f]) := by
  obtain ⟨i0, hi, hz0, hz1, hz2⟩ := info_parts Try.infoU8
  obtain ⟨s, hcell, hown, hrr⟩ := id hb
  have hpl := lt_of_block hcell
  have hc := cell_of_one hcell
  have hf := free_of_one hcell
  have HB := Lib.hid hb; clear hb
  have HC := Lib.hid hcell; clear hcell
  have HR := Lib.hid hrr; clear hrr
  go_enter Try.func99, Try.ntmps99
  go_wp2_with fail
  have hfb : (w.alloc (.cells #[.int .u8 (f : Int)] 50)).cell? ⟨w.heap.size, 0, none⟩ = some (.int .u8 (f : Int)) := by
    have h := cell_one_new w (.int .u8 (f : Int)) 50 0 (.int .u8 (f : Int)) rfl
    exact h
  have hcb : (w.alloc (.cells #[.int .u8 (f : Int)] 50)).cell? ⟨p, 0, none⟩ = some s := by
    rw [World.cell?_of_block (Below.heap_alloc _ _ _ hpl)]; exact hc
  have HC2 : Hid ((w.alloc (.cells #[.int .u8 (f : Int)] 50)).heap[p]? = some (.cells #[s] 36 (0, 0))) := by
    show _ = _
    rw [Below.heap_alloc _ _ _ hpl]; exact HC.out
  have hnew : ∀ (j : Nat) (u : Value), [Value.int .u8 (f : Int)][j]? = some u → ((w.alloc (.cells #[.int .u8 (f : Int)] 50)).alloc (.cells #[.int .u8 (f : Int)] 5)).drew.cell? ((⟨w.heap.size + 1, 0, none⟩ : Addr).add j) = some u := by
    intro j u hj
    have h := cell_one_new (w.alloc (.cells #[.int .u8 (f : Int)] 50)) (.int .u8 (f : Int)) 5 j u hj
    rw [World.size_alloc] at h
    exact h
  go_region_law (rw [if_pos (by rfl)]; refine wp_append_own2 _ _ _ 36 rfl 5 i0 (.int .u8 0) 1 1 Try.underlying36 hi hz0 hz1 hz2 rfl (by decide) s xs.length (cu8 xs) rfl (by first | exact (hown.alloc _).alloc _ | exact ((hown.alloc _).alloc _).drew) ⟨w.heap.size + 1, 0, none⟩ 1 1 [Value.int .u8 (f : Int)] rfl rfl hnew (by intro u hu; simp at hu; subst hu; rfl) (by unfold maxLen; omega) (by omega) ?_; intro v' w1 hown' hgrow hblk; obtain ⟨ao1, n1, cp1, rfl⟩ := owns_slice hown'; have hg2 : ((w.alloc (.cells #[.int .u8 (f : Int)] 50)).alloc (.cells #[.int .u8 (f : Int)] 5)).grownBy w1 s.ownBlock := ⟨hgrow.os, hgrow.tape, hgrow.output, hgrow.size, hgrow.block⟩; have hc1 := buf_cell_behind (by decide) HC2.out (hown.alloc _) hg2; have hcc := cell_of_one hc1; have hff := free_of_one hc1)
  all_goals
    go_end0
    refine ⟨rfl, ?_⟩
    have hown2 : w1.ownsRow 0 5 1 (.slice ao1 n1 cp1) (xs.length + [f].length) (cu8 xs ++ cu8 [f]) := by simpa [cu8] using hown'
    refine grew_step (ys := [f]) (by decide) HC2.out (hown.alloc _) HR.out ((Fr.refl _ w).alloc _) (.inl rfl) hown2 hg2 ?_
    rcases hblk with h | h
    · exact .inl h
    · exact .inr (h.trans (congrArg some (by show (World.alloc _ _).heap.size = _; rw [World.size_alloc])))
end Go.Proofs.Ytgommnmmifgbgaa
