/-
  FnCut: it is true.
-/
import Derived.Test.YtgjlbodclfhlfaaPlainCut
import Derived.Test.YtgjlbodclfhlfaaSpecU
import Derived.Test.YtgjlbodclfhlfaaSpecV
import Derived.Test.YtgjlbodclfhlfaaFromU
import Derived.Test.YtgjlbodclfhlfaaFromV
namespace Go.Proofs.Ytgjlbodclfhlfaa
open Go.RowKit

set_option maxRecDepth 100000 in
set_option maxHeartbeats 800000 in
theorem fnCut_out (n fb : Nat) (w : World) (h : ((FloatKind.f64.format.order fb 0 == some .gt || FloatKind.f64.format.order fb 0 == some .eq) && (FloatKind.f64.format.order fb 4841369599423283200 == some .lt || FloatKind.f64.format.order fb 4841369599423283200 == some .eq)) = false) :
    Calls Try.prog 3 #[.int .u64 n, .float .f64 fb] w fun e w' => IsTrue w e w' := by
  go_enter Try.func3, Try.ntmps3
  go_wp2_with (go_at_call 4; refine (works_any _).mono ?_; rintro e w' ⟨rfl, hbel⟩)
  all_goals
    go_ret
    exact ⟨rfl, by assumption⟩

/-- The bytes of a number but for the last one lie where the slice points. -/
theorem cut_cells {tE : TypeId} {w : World} {ao : Option Addr} {n' c n : Nat} {xs : List Nat} (h : w.ownsRow 0 tE 1 (.slice ao n' c) n (cu8 xs)) (h0 : 0 < xs.length) :
    ∃ g, ao = some ⟨g, 0, none⟩ ∧ n' = xs.length ∧ n' ≤ c ∧ c ≤ maxLen ∧ xs.dropLast.length = xs.length - 1 ∧ ∀ i, (hi : i < xs.dropLast.length) → w.cell? ⟨g, 0 + i, none⟩ = some (.int .u8 (xs.dropLast[i] : Int)) := by
  obtain ⟨g, h1, h2, h3, h4, h5⟩ := owns_some h h0
  refine ⟨g, h1, h2, h3, h4, List.length_dropLast, ?_⟩
  intro i hi
  rw [List.getElem_dropLast]
  exact h5 i (by rw [List.length_dropLast] at hi; omega)

theorem fromU_none {w w' : World} {e : Ending} (h : fromUGives none w e w') : e = .returned (.tuple #[.int .u64 0, .int .i64 0, .bool false]) ∧ Below w.heap.size w w' := h
theorem fromV_none {w w' : World} {e : Ending} (h : fromVGives 0 none w e w') : e = .returned (.tuple #[.float .f64 0, .int .i64 0, .bool false]) ∧ Below w.heap.size w w' := h

set_option maxRecDepth 100000 in
set_option maxHeartbeats 800000 in
theorem fnCut_in (n fb : Nat) (w : World) (hn : n < 18446744073709551616) (h1 : (FloatKind.f64.format.order fb 0 == some .gt || FloatKind.f64.format.order fb 0 == some .eq) = true) (h2 : (FloatKind.f64.format.order fb 4841369599423283200 == some .lt || FloatKind.f64.format.order fb 4841369599423283200 == some .eq) = true) :
    Calls Try.prog 3 #[.int .u64 n, .float .f64 fb] w fun e w' => IsTrue w e w' := by
  obtain ⟨r, hr⟩ := add_one_some fb 0 (by cases h : FloatKind.f64.format.order fb 0 <;> simp_all)
  have hU := fun w => specU_any n w hn
  have hV := fun w => specV_any fb r w hr
  have hlu := (encU_len 8 n).1
  have hlu2 := (encU_len 8 n).2
  have hbu := encU_byte 8 n
  have hcu := decU_cut 8 0 0 n rfl
  have hlv := (encV_len 8 (turned r)).1
  have hlv2 := (encV_len 8 (turned r)).2
  have hbv := encV_byte 8 (turned r) (turned_lt r)
  have hcv := decV_cut 8 0 0 (turned r) rfl
  revert hU hV hlu hlu2 hbu hcu hlv hlv2 hbv hcv
  generalize encU 8 n = us
  generalize encV 8 (turned r) = vs
  intro hU hV hlu hlu2 hbu hcu hlv hlv2 hbv hcv
  have HBU : Hid (∀ x ∈ us.dropLast, x < 256) := fun x hx => hbu x (List.dropLast_subset _ hx)
  have HBV : Hid (∀ x ∈ vs.dropLast, x < 256) := fun x hx => hbv x (List.dropLast_subset _ hx)
  have HCU := Lib.hid hcu
  have HCV := Lib.hid hcv
  clear hbu hbv hcu hcv hr hn
  go_enter Try.func3, Try.ntmps3
  go_wp2_with fail
  refine (hU w).mono ?_
  rintro e w1 ⟨ao1, n1, c1, rfl, ⟨ho1, -⟩, hb1⟩
  obtain ⟨g1, rfl, rfl, hc1, hm1, hd1, hx1⟩ := cut_cells ho1 hlu
  have hs1 := run_slice_upto (P := Try.prog) 25 5 Try.underlying25 (some ⟨g1, 0, none⟩) us.length c1 (us.length - 1) ((us.length : Int) - 1) (by omega) (by omega) Try.sizeU8
  clear ho1 hU
  have HX1 := Lib.hid hx1
  have HB1 := Lib.hid hb1
  have HD1 := Lib.hid hd1
  clear hx1 hb1 hd1
  go_wp2_with fail
  refine (hV w1).mono ?_
  clear hV
  rintro e w2 ⟨ao2, n2, c2, rfl, ⟨ho2, -⟩, hb2⟩
  obtain ⟨g2, rfl, rfl, hc2, hm2, hd2, hx2⟩ := cut_cells ho2 hlv
  have hF1 := fromU_any g1 0 c1 us.dropLast none w2 (by rw [HD1.out]; omega) HBU.out HCU.out (fun i h => cell_later hb2 (HX1.out i h))
  rw [HD1.out] at hF1
  have hF2 := fun w3 (hb3 : Below w2.heap.size w2 w3) => fromV_any g2 0 c2 vs.dropLast 0 none w3 (by rw [hd2]; omega) HBV.out (fun y rest hy => by rw [HCV.out] at hy; cases hy) HCV.out (fun i h => cell_later hb3 (hx2 i h))
  rw [hd2] at hF2
  have hs2 := run_slice_upto (P := Try.prog) 25 5 Try.underlying25 (some ⟨g2, 0, none⟩) vs.length c2 (vs.length - 1) ((vs.length : Int) - 1) (by omega) (by omega) Try.sizeU8
  have HF2 := Lib.hid hF2
  have HB2 := Lib.hid hb2
  clear ho2 hx2 hd2 hb2 HX1 HBU HBV HCU HCV HD1 hF2
  go_wp2_with (first | (go_at_call 7; refine hF1.mono ?_; clear hF1; rintro e w3 hd3; obtain ⟨rfl, hb3⟩ := fromU_none hd3; clear hd3; have hG := HF2.out w3 hb3; have HB3 := Lib.hid hb3; clear hb3 HF2) | (go_at_call 8; refine hG.mono ?_; clear hG; rintro e w4 hd4; obtain ⟨rfl, hb4⟩ := fromV_none hd4; have HB4 := Lib.hid hb4; clear hb4 hd4) | (go_at_call 4; refine (works_any _).mono ?_; rintro e w5 ⟨rfl, hb5⟩; have HB5 := Lib.hid hb5; clear hb5))
  go_ret
  refine ⟨rfl, ?_⟩
  have s1 := HB1.out.size
  have s2 := HB2.out.size
  have s3 := HB3.out.size
  have s4 := HB4.out.size
  exact HB1.out.trans ((HB2.out.mono s1).trans ((HB3.out.mono (by omega)).trans ((HB4.out.mono (by omega)).trans (HB5.out.mono (by omega)))))
end Go.Proofs.Ytgjlbodclfhlfaa
