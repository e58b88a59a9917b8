/-
  The table of the lengths of the bytes of numbers with a fraction, by the zeros at their end.
-/
import Derived.Test.YtgjlbodclfhlfaaDoorEncV
import Derived.Test.YtgjlbodclfhlfaaDoorDecV
import Derived.Test.YtgjlbodclfhlfaaDoorTabU
namespace Go.Proofs.YtgjlbodclfhlfaaDoor
open Go.RowKit

/-- The number whose lowest i bits are nought, the others one. -/
def lowOnes (i : Nat) : Nat := 18446744073709551615 * 2 ^ i % 18446744073709551616
/-- How many bytes a turned number takes that ends in i zeros. -/
def lenV (i : Nat) : Nat := if i < 8 then 9 else max 1 ((70 - i) / 7)

/-- The numbers that initVarfloat64Sizes encodes, by their bits, and those one more. -/
def vs65 : List Nat := [13591863675404156928, 13830554455654793216, 13830554455654793216, 13830554455654793216, 13830554455654793216, 14118784831806504959, 4895412794951729151, 4895412794951729150, 4895412794951729148, 4895412794951729144, 4895412794951729136, 4895412794951729120, 4895412794951729088, 4895412794951729024, 4895412794951728896, 4895412794951728640, 4895412794951728128, 4895412794951727104, 4895412794951725056, 4895412794951720960, 4895412794951712768, 4895412794951696384, 4895412794951663616, 4895412794951598080, 4895412794951467008, 4895412794951204864, 4895412794950680576, 4895412794949632000, 4895412794947534848, 4895412794943340544, 4895412794934951936, 4895412794918174720, 4895412794884620288, 4895412794817511424, 4895412794683293696, 4895412794414858240, 4895412793877987328, 4895412792804245504, 4895412790656761856, 4895412786361794560, 4895412777771859968, 4895412760591990784, 4895412726232252416, 4895412657512775680, 4895412520073822208, 4895412245195915264, 4895411695440101376, 4895410595928473600, 4895408396905218048, 4895403998858706944, 4895395202765684736, 4895377610579640320, 4895342426207551488, 4895272057463373824, 4895131319975018496, 4894849844998307840, 4894286895044886528, 4893160995138043904, 4890909195324358656, 4886405595696988160, 4877398396442247168, 4859383997932765184, 4823355200913801184, 4751297606873776128, 0]
def rs65 : List Nat := [4607182418800017407, 0, 0, 0, 0, 14118784831806504959, 4895412794951729151, 4895412794951729150, 4895412794951729148, 4895412794951729144, 4895412794951729136, 4895412794951729120, 4895412794951729088, 4895412794951729024, 4895412794951728896, 4895412794951728640, 4895412794951728128, 4895412794951727104, 4895412794951725056, 4895412794951720960, 4895412794951712768, 4895412794951696384, 4895412794951663616, 4895412794951598080, 4895412794951467008, 4895412794951204864, 4895412794950680576, 4895412794949632000, 4895412794947534848, 4895412794943340544, 4895412794934951936, 4895412794918174720, 4895412794884620288, 4895412794817511424, 4895412794683293696, 4895412794414858240, 4895412793877987328, 4895412792804245504, 4895412790656761856, 4895412786361794560, 4895412777771859968, 4895412760591990784, 4895412726232252416, 4895412657512775680, 4895412520073822208, 4895412245195915264, 4895411695440101376, 4895410595928473600, 4895408396905218048, 4895403998858706944, 4895395202765684736, 4895377610579640320, 4895342426207551488, 4895272057463373824, 4895131319975018496, 4894849844998307840, 4894286895044886528, 4893160995138043904, 4890909195324358656, 4886405595696988160, 4877398396442247168, 4859383997932765184, 4823355200913801216, 4751297606875873280, 4607182418800017408]
theorem row1 : ∀ i, i < 65 → floatBits .sub .f64 (unturned (lowOnes i)) 4607182418800017408 = some (vs65.getD i 0) := by decide +kernel
theorem row2 : ∀ i, i < 65 → floatBits .add .f64 (vs65.getD i 0) 4607182418800017408 = some (rs65.getD i 0) := by decide +kernel
theorem row3 : ∀ i, i < 65 → (encV 8 (turned (rs65.getD i 0))).length = lenV i := by decide +kernel
theorem rowV_of (i : Nat) (h : i < 65) : ∃ v r : Nat, floatBits .sub .f64 (unturned (lowOnes i)) 4607182418800017408 = some v ∧ floatBits .add .f64 v 4607182418800017408 = some r ∧ (encV 8 (turned r)).length = lenV i :=
  ⟨_, _, row1 i h, row2 i h, row3 i h⟩

theorem encV_len1 (k x : Nat) : 1 ≤ (encV k x).length := by
  cases k with
  | zero => simp [encV]
  | succ k => rw [encV]; split <;> simp

/-- What stands ahead of the call in a round, its numbers under names. -/
theorem v_round (k : Nat) (hk : k < 65) : ∃ a b c v r : Nat, ∃ ys : List Nat, IntKind.u64.wrap (18446744073709551615 * 2 ^ k) = (a : Int) ∧
    (∀ w, Calls Tryd.prog 38 #[.int .u64 a, .int .i64 (-6)] w fun e w' => e = .returned (.int .u64 b) ∧ w = w') ∧ IntKind.u64.wrap ((b : Int) + 4607182418800017408) = (c : Int) ∧
    (∀ w : World, (binOp .sub 22 (.float .f64 c) (.float .f64 4607182418800017408)).run Tryd.prog w = .ok (.float .f64 v) w) ∧ floatBits .add .f64 v 4607182418800017408 = some r ∧ ys = encV 8 (turned r) ∧ ys.length = lenV k := by
  obtain ⟨v, r, h1, h2, h3⟩ := rowV_of k hk
  have hlt : lowOnes k < 18446744073709551616 := Nat.mod_lt _ (by decide)
  refine ⟨lowOnes k, rotr6 (lowOnes k), unturned (lowOnes k), v, r, _, ?_, fun w => rotr_any _ w hlt, unturned_spell _, fun w => run_float_arith (P := Tryd.prog) w .sub 22 .f64 _ 4607182418800017408 v h1, h2, rfl, h3⟩
  rw [show (18446744073709551615 : Int) * 2 ^ k = ((18446744073709551615 * 2 ^ k : Nat) : Int) from by simp, wrap_u64_nat]
  rfl

set_option maxRecDepth 100000 in
set_option maxHeartbeats 1000000 in
theorem tabV_any (w : World) :
    Calls Tryd.prog 46 #[] w fun e w' => e = .returned (.agg (part65 lenV 65)) ∧ Below w.heap.size w w' := by
  have hz := Tryd.zero65
  obtain ⟨z, hzz⟩ : ∃ z, z = part65 (fun _ => 0) 0 := ⟨_, rfl⟩
  have hst := TabRel.start lenV w
  rw [← hzz] at hz hst
  have HZ := Lib.hid hzz
  have HS := Lib.hid hst
  clear hzz hst
  go_enter Tryd.func46, Tryd.ntmps46
  go_wp2
  go_loopw [3] (fun i wr => ∃ k : Nat, k ≤ 65 ∧ i = .int .i64 k ∧ TabRel lenV w k wr) (fun i _ => 65 - (intOf i).toNat)
  case atStart => exact ⟨0, by omega, rfl, HS.out⟩
  case round =>
    clear hz HS
    obtain ⟨k, hk, rfl, h1, h2, ⟨ao, n, c, xs, h3, h4, h5, h6⟩, h7⟩ := hrel
    by_cases hlt : k < 65
    · have hc3 := cell_of_one h3
      have hf3 := free_of_one h3
      have hsl := run_slice_upto (P := Tryd.prog) 23 5 Tryd.underlying23 ao n c 0 0 rfl (Nat.zero_le _) Tryd.sizeU8
      obtain ⟨qa, qb, qc, v, r, ys, hv, hrot, hv2, hsub, hr, hys, hyl⟩ := v_round k hlt
      have hbuf := buf_reset (by decide) h3 h4 rfl h5
      obtain ⟨w2, hw2⟩ : ∃ w2, w2 = wr.setCell ⟨w.heap.size + 1 + 1 + 1, 0, none⟩ (.slice ao 0 c) := ⟨_, rfl⟩
      rw [← hw2] at hbuf
      have H := encV_any (w.heap.size + 1 + 1 + 1) _ v r [] w2 hr hbuf (by simp)
      rw [← hys] at H
      rw [hw2] at H
      have HW2 := Lib.hid hw2
      have hlen := encV_len1 8 (turned r)
      rw [← hys] at hlen
      have HYL := Lib.hid hyl
      have HH := Lib.hid H
      have H1 := Lib.hid h1
      have H2 := Lib.hid h2
      have H3 := Lib.hid h3
      have H4 := Lib.hid h4
      have H6 := Lib.hid h6
      have H7 := Lib.hid h7
      clear h1 h2 h3 h4 h5 h6 h7 hbuf hw2 hr hys hyl H
      go_wp2_with (first | (go_at_call 38; refine (hrot _).mono ?_; rintro e w' ⟨rfl, rfl⟩) | (go_at_call 39; refine (twinBits_any _ _).mono ?_; rintro e w' ⟨rfl, rfl⟩) | (go_at_call 43; refine (twinFrom_any _ _).mono ?_; rintro e w' ⟨rfl, rfl⟩))
      refine HH.out.mono ?_
      rintro e w3 ⟨rfl, r2, ⟨s2, g1, g2, g3⟩, g4, g5⟩
      rw [← HW2.out] at g4 g5
      have f1 : w3.heap[w.heap.size + 1]? = some (.cells (part65 lenV k) 60 (0, 0)) := by
        refine g4.heap ?_ ?_
        · rw [HW2.out, Below.heap_setCell _ _ _ _ (by simp)]; exact H2.out
        · intro h; rcases h with h | h
          · omega
          · have := H6.out _ h; omega
      have f0 : w3.heap[w.heap.size]? = some (.cells (part65 (fun _ => 0) 0) 60 (0, 0)) := by
        refine g4.heap ?_ ?_
        · rw [HW2.out, Below.heap_setCell _ _ _ _ (by simp; omega)]; exact H1.out
        · intro h; rcases h with h | h
          · omega
          · have := H6.out _ h; omega
      have f2 : Below w.heap.size w w3 := by
        have hs := H7.out.size
        have e := H7.out.setCell (p := ⟨w.heap.size + 1 + 1 + 1, 0, none⟩) (by simp; omega) (.slice ao 0 c)
        rw [← HW2.out] at e
        refine e.trans (g4.below (B := w.heap.size) ?_ e.size)
        intro j hj
        rcases hj with hj | hj
        · omega
        · have := H6.out _ hj; omega
      obtain ⟨ao2, n2, c2, rfl⟩ := owns_slice g2
      have hn2 := owns_len g2
      have f3 : ao2 ≠ none := by
        intro e; subst e
        rcases g2.2 with ⟨_, h⟩ | ⟨_, _, _, h, _⟩
        · simp only [List.nil_append] at h; omega
        · cases h
      have f4 : ∀ g, (Value.slice ao2 n2 c2).ownBlock = some g → w.heap.size + 1 + 1 ≤ g := by
        intro g hg
        rw [g3] at hg
        rcases g5 with h | ⟨j, h, hj⟩
        · rw [h] at hg; exact H6.out _ hg
        · rw [h] at hg; cases hg
          have := H7.out.size
          rw [HW2.out] at hj
          have h4 := lt_of_block H3.out
          simp at hj
          omega
      have f5 : n2 = lenV k := by
        rw [hn2]; simpa using HYL.out
      have g : TabRel lenV w (k + 1) (w3.setCell ⟨w.heap.size + 1, k, none⟩ (.int .i64 (n2 : Int))) := by
        refine ⟨?_, ?_, ⟨ao2, n2, c2, [] ++ ys, ?_, ?_, f3, f4⟩, f2.setCell (by simp) _⟩
        · rw [Below.heap_setCell _ _ _ _ (by simp)]; exact f0
        · rw [heap_setCell_same _ _ _ _ _ _ f1, f5, part65_step]
        · rw [Below.heap_setCell _ _ _ _ (by simp; omega)]; exact g1
        · refine ownsRow_setCell_other g2 ?_ _
          intro h; have := f4 _ h; simp at this; omega
      have hce := cell_of_row w3 (w.heap.size + 1) k _ _ _ f1
      rw [part65_get _ _ _ hlt] at hce
      have hfe := frozen_of_row w3 (w.heap.size + 1) k _ _ f1
      have hcb := cell_of_one g1
      have G := Lib.hid g
      clear f0 f1 f2 f3 f4 f5 g g1 g2 g3 g4 g5 hn2 hlen
      go_wp2
      go_roundw
      case rel => exact ⟨k + 1, by omega, by go_num, G.out⟩
      case measure => simp [intOf]; omega
    · have hk65 : k = 65 := by omega
      subst hk65
      clear hlt hk h3 h4 h5 h6
      have H2 := Lib.hid h2
      have H1 := Lib.hid h1
      have H7 := Lib.hid h7
      clear h1 h2 h7
      go_wp2_with (first
        | (refine wpList_load_row rfl 60 _ rfl (w.heap.size + 1) rfl 60 (part65 lenV 65) (0, 0) _ H2.out Tryd.underlying60 rfl (by rw [part65_size]; exact Tryd.info65) ?_)
        | (refine wpList_store_row rfl 60 _ _ rfl w.heap.size (part65 lenV 65) rfl rfl 60 (part65 (fun _ => 0) 0) H1.out (by rw [part65_size]; exact Tryd.info65) (by rw [part65_size, part65_size]) (part65_one _ _) ?_))
      have hr := setRow_heap wr w.heap.size _ (part65 lenV 65) _ _ H1.out
      refine bodyPost_ret (v := .agg (part65 lenV 65)) (results_cell_row (fn := Tryd.f46) rfl _ _ w.heap.size 60 (part65 lenV 65) (0, 0) _ rfl hr Tryd.underlying60 rfl (by rw [part65_size]; exact Tryd.info65)) rfl ⟨rfl, ?_⟩
      exact H7.out.trans ⟨rfl, rfl, rfl, by simp, fun j hj => setRow_other wr w.heap.size j _ (by omega)⟩
end Go.Proofs.YtgjlbodclfhlfaaDoor
