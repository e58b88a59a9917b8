/-
  FnUvarint: it is true.
-/
import Derived.Test.YtgjlbodclfhlfaaDoorLawVMain
import Derived.Test.YtgjlbodclfhlfaaDoorSpecU
import Derived.Test.YtgjlbodclfhlfaaDoorFromU
import Derived.Test.YtgjlbodclfhlfaaDoorFromI
import Derived.Test.YtgjlbodclfhlfaaDoorInt
namespace Go.Proofs.YtgjlbodclfhlfaaDoor
open Go.RowKit

set_option maxRecDepth 100000 in
set_option maxHeartbeats 800000 in
theorem fnUvarint_big (v n c : Nat) (m : Int) (ao : Option Addr) (w : World) (h : 2147483647 < n) :
    Calls Tryd.prog 4 #[.int .u64 v, .int .i64 m, .slice ao n c] w fun e w' => IsTrue w e w' := by
  have h' : (n : Int) > 2147483647 := by omega
  clear h
  go_enter Tryd.func4, Tryd.ntmps4
  go_wp2_with fail
  all_goals
    go_ret
    exact ⟨rfl, Below.refl _ _⟩

set_option maxRecDepth 100000 in
set_option maxHeartbeats 800000 in
theorem fnUvarint_long (v n c : Nat) (m : Int) (ao : Option Addr) (w : World) (h0 : n ≤ 2147483647) (h : 50 < n) :
    Calls Tryd.prog 4 #[.int .u64 v, .int .i64 m, .slice ao n c] w fun e w' => IsTrue w e w' := by
  have h' : ¬ (n : Int) > 2147483647 := by omega
  have h2 : (n : Int) > 50 := by omega
  clear h h0
  go_enter Tryd.func4, Tryd.ntmps4
  go_wp2_with (go_at_call 5; refine (works_any _).mono ?_; rintro e w' ⟨rfl, hbel⟩)
  all_goals
    go_ret
    exact ⟨rfl, by assumption⟩

/-- The conversions of what Uvarint and Varint have handed back: named, so that the region's walk doesn't try to run them ahead of the calls. -/
def conv64 : Op := .convert 23 9 (.tmp 64)
@[go_sem] theorem conv64_is : conv64 = .convert 23 9 (.tmp 64) := rfl
def conv71 : Op := .convert 23 9 (.tmp 71)
@[go_sem] theorem conv71_is : conv71 = .convert 23 9 (.tmp 71) := rfl

theorem fromU_some {y : Nat} {t : List Nat} {w w' : World} {e : Ending} (h : fromUGives (some (y, t)) w e w') : e = .returned (.tuple #[.int .u64 y, .int .i64 (t.length : Nat), .bool true]) ∧ Below w.heap.size w w' := h
theorem fromI_some {y : Nat} {m : Int} (hm : unfolded y = m) {t : List Nat} {w w' : World} {e : Ending} (h : fromIGives (some (y, t)) w e w') : e = .returned (.tuple #[.int .i64 m, .int .i64 (t.length : Nat), .bool true]) ∧ Below w.heap.size w w' := by subst hm; exact h

/-- A slice that reads as xs and can be made a string. -/
def Reads (B : Nat) (w0 w3 : World) (xs : List Nat) (e : Ending) : Prop :=
  ∃ ao n c, e = .returned (.slice ao n c) ∧ Below B w0 w3 ∧ ∀ w4, Below w3.heap.size w3 w4 → (convert 23 9 (.slice ao n c)).run Tryd.prog w4 = .ok (.string (str xs)) w4

theorem gives_reads {w0 w' w3 : World} {xs : List Nat} {e : Ending} (hb : Below w0.heap.size w0 w') (h : GivesBytes xs w' e w3) : Reads w0.heap.size w0 w3 xs e := by
  obtain ⟨ao, n, c, rfl, ⟨ho, -⟩, hb3⟩ := h
  refine ⟨ao, n, c, rfl, hb.trans (hb3.mono hb.size), fun w4 hb4 => ?_⟩
  exact run_string_of_owned (P := Tryd.prog) 23 5 9 Tryd.underlying23 Tryd.underlying5 Tryd.underlying9 (owns_below ho hb4)

set_option maxRecDepth 100000 in
set_option maxHeartbeats 2000000 in
theorem fnUvarint_in (v c : Nat) (m : Int) (ys : List Nat) (ao : Option Addr) (w : World) (hv : v < 18446744073709551616) (hm0 : -9223372036854775808 ≤ m) (hm1 : m ≤ 9223372036854775807) (h0 : ys.length ≤ 50) (hby : ∀ x ∈ ys, x < 256) (hy : Lies w ao ys) (hT : TabAt w) (hg : 1 < w.heap.size) :
    Calls Tryd.prog 4 #[.int .u64 v, .int .i64 m, .slice ao ys.length c] w fun e w' => IsTrue w e w' := by
  have hfl := folded_lt m hm0 hm1
  have hU := fun w => specU_any v w hv
  have hFo := fun w => folded_any m w hm0 hm1
  have hU2 := fun w => specU_any (folded m) w hfl
  obtain ⟨r, hr⟩ : ∃ r, floatBits .add .f64 0 4607182418800017408 = some r := add_one_some 0 0 (by decide +kernel)
  obtain ⟨a, ha⟩ : ∃ a, (encV 8 (turned r)).length = a := ⟨_, rfl⟩
  have hS : ∀ w', Below w.heap.size w w' → Calls Tryd.prog 7 #[.int .u64 v, .int .i64 m, .float .f64 0] w' fun e w2 => GivesSizes (encU 8 v).length (encU 8 (folded m)).length a w' e w2 :=
    fun w' hbl => sizes_any v m 0 r _ _ a w' hv hm0 hm1 hr (hT.below hbl hg) (Nat.lt_of_lt_of_le hg hbl.size) rfl rfl ha
  have hI := fun (w0 w' : World) (hb : Below w0.heap.size w0 w') => (implUvarint_any v w' hv).mono fun e w3 h => gives_reads hb h
  have hJ := fun (w0 w' : World) (hb : Below w0.heap.size w0 w') => (implVarint_any m _ rfl w' hm0 hm1).mono fun e w3 h => gives_reads hb h
  have hl1 := (encU_len 8 v).1
  have hl2 := (encU_len 8 v).2
  have hl3 := (encU_len 8 (folded m)).1
  have hl4 := (encU_len 8 (folded m)).2
  have hF : ∀ g cp w', (∀ i, (h : i < (encU 8 v ++ ys).length) → w'.cell? ⟨g, 0 + i, none⟩ = some (.int .u8 ((encU 8 v ++ ys)[i] : Int))) →
      Calls Tryd.prog 12 #[.slice (some ⟨g, 0, none⟩) ((encU 8 v).length + ys.length) cp] w' fun e w2 => fromUGives (some (v, ys)) w' e w2 := by
    intro g cp w' hc
    have := fromU_any g 0 cp (encU 8 v ++ ys) _ w' (by rw [List.length_append]; omega) (fun x hx => (List.mem_append.1 hx).elim (encU_byte 8 v x) (hby x)) (decU_read v ys hv) hc
    rwa [List.length_append] at this
  have hG : ∀ g cp w', (∀ i, (h : i < (encU 8 (folded m) ++ ys).length) → w'.cell? ⟨g, 0 + i, none⟩ = some (.int .u8 ((encU 8 (folded m) ++ ys)[i] : Int))) →
      Calls Tryd.prog 13 #[.slice (some ⟨g, 0, none⟩) ((encU 8 (folded m)).length + ys.length) cp] w' fun e w2 => fromIGives (some (folded m, ys)) w' e w2 := by
    intro g cp w' hc
    have := fromI_any g 0 cp (encU 8 (folded m) ++ ys) _ w' (by rw [List.length_append]; omega) (fun x hx => (List.mem_append.1 hx).elim (encU_byte 8 _ x) (hby x)) (decU_read (folded m) ys hfl) hc
    rwa [List.length_append] at this
  have hun := unfolded_folded m
  clear hby hT ha hr hfl
  revert hU hU2 hS hI hJ hl1 hl2 hl3 hl4 hF hG
  generalize encU 8 v = us
  generalize encU 8 (folded m) = vs
  intro hU hU2 hS hI hJ hl1 hl2 hl3 hl4 hF hG
  revert hFo hU2 hG hun
  generalize folded m = fm
  intro hFo hun hU2 hG
  have HUN := Lib.hid hun
  have HF := Lib.hid hF
  have HG := Lib.hid hG
  have HY := Lib.hid hy
  have HS := Lib.hid hS
  have HI := Lib.hid hI
  have HJ := Lib.hid hJ
  have HV := Lib.hid hv
  have HM0 := Lib.hid hm0
  have HM1 := Lib.hid hm1
  clear hF hG hy hS hI hJ hun hv hm0 hm1
  have g1 : ¬ (ys.length : Int) > 2147483647 := by omega
  have g2 : ¬ (ys.length : Int) > 50 := by omega
  go_enter Tryd.func4, Tryd.ntmps4
  go_wp2_with fail
  refine (hU w).mono ?_
  clear hU
  rintro e w1 ⟨ao1, n1, c1, rfl, ⟨ho1, -⟩, hb1⟩
  obtain ⟨gg1, rfl, rfl, hc1, hm1, hx1⟩ := owns_some ho1 hl1
  have HO1 := Lib.hid ho1
  have HX1 := Lib.hid hx1
  have HB1 := Lib.hid hb1
  clear ho1 hx1 hb1
  go_wp2_with fail
  refine (hFo w1).mono ?_
  clear hFo
  rintro e w1' ⟨rfl, rfl⟩
  go_wp2_with fail
  refine (hU2 w1).mono ?_
  clear hU2
  rintro e w2 ⟨ao2, n2, c2, rfl, ⟨ho2, -⟩, hb2⟩
  obtain ⟨gg2, rfl, rfl, hc2, hm2, hx2⟩ := owns_some ho2 hl3
  have HB2' := Lib.hid hb2
  have HB2 : Hid (Below w.heap.size w w2) := HB1.out.trans (hb2.mono HB1.out.size)
  have HX1' : Hid (∀ i, (h : i < us.length) → w2.cell? ⟨gg1, 0 + i, none⟩ = some (.int .u8 (us[i] : Int))) := fun i h => cell_later hb2 (HX1.out i h)
  have HY2 : Hid (Lies w2 ao ys) := HY.out.below HB2.out (Nat.le_refl _)
  have HO1' : Hid (w2.ownsRow 0 5 1 (.slice (some ⟨gg1, 0, none⟩) us.length c1) us.length (cu8 us)) := owns_below HO1.out hb2
  have HO2 := Lib.hid ho2
  have HX2 := Lib.hid hx2
  clear ho2 hx2 hb2 HX1 HY HO1 HB1 HB2'
  have hsl1 := run_slice_full (P := Tryd.prog) 23 5 Tryd.underlying23 (some ⟨gg1, 0, none⟩) us.length c1 us.length (us.length : Int) rfl hc1 Tryd.sizeU8
  have hsl2 := run_slice_full (P := Tryd.prog) 23 5 Tryd.underlying23 (some ⟨gg2, 0, none⟩) vs.length c2 vs.length (vs.length : Int) rfl hc2 Tryd.sizeU8
  go_wp2_with (at_builtin; refine wpList_append_exact w2 rfl _ _ 23 5 rfl Tryd.underlying23 Tryd.infoU8 gg1 c us ys ao rfl rfl HX1'.out HY2.out (by omega) ?_; intro g3 c3 w3 hx3 hf3)
  have hb23 : Below w2.heap.size w2 w3 := hf3.below (fun _ h => h.elim) (Nat.le_refl _)
  refine (HF.out g3 c3 w3 hx3).mono ?_
  rintro e w4 hd4
  obtain ⟨rfl, hb4⟩ := fromU_some hd4
  have hb24 : Below w2.heap.size w2 w4 := hb23.trans (hb4.mono hb23.size)
  have HB24 := Lib.hid hb24
  have HY4 : Hid (Lies w4 ao ys) := HY2.out.below hb24 (Nat.le_refl _)
  have HX4 : Hid (∀ i, (h : i < vs.length) → w4.cell? ⟨gg2, 0 + i, none⟩ = some (.int .u8 (vs[i] : Int))) := fun i h => cell_later hb24 (HX2.out i h)
  clear hx3 hf3 hb23 hd4 hb4 hb24 HF HX2 HX1'
  go_wp2_with (at_builtin; refine wpList_append_exact w4 rfl _ _ 23 5 rfl Tryd.underlying23 Tryd.infoU8 gg2 c vs ys ao rfl rfl HX4.out HY4.out (by omega) ?_; intro g5 c5 w5 hx5 hf5)
  have hb45 : Below w4.heap.size w4 w5 := hf5.below (fun _ h => h.elim) (Nat.le_refl _)
  refine (HG.out g5 c5 w5 hx5).mono ?_
  rintro e w6 hd6
  obtain ⟨rfl, hb6⟩ := fromI_some HUN.out hd6
  have HB26 : Hid (Below w2.heap.size w2 w6) := HB24.out.trans ((hb45.trans (hb6.mono hb45.size)).mono HB24.out.size)
  have HB6 : Hid (Below w.heap.size w w6) := HB2.out.trans (HB26.out.mono HB2.out.size)
  clear hx5 hf5 hb45 hd6 hb6 HG HX4 HY4 HY2 hsl1 hsl2
  go_wp2_with fail
  refine (HS.out w6 HB6.out).mono ?_
  rintro e w7 ⟨rfl, hb7⟩
  have HB27 : Hid (Below w2.heap.size w2 w7) := HB26.out.trans (hb7.mono HB26.out.size)
  have HB7 : Hid (Below w.heap.size w w7) := HB2.out.trans (HB27.out.mono HB2.out.size)
  have hcv1 : ∀ w', Below w7.heap.size w7 w' → (convert 23 9 (.slice (some ⟨gg1, 0, none⟩) us.length c1)).run Tryd.prog w' = .ok (.string (str us)) w' := by
    intro w' hb
    exact run_string_of_owned (P := Tryd.prog) 23 5 9 Tryd.underlying23 Tryd.underlying5 Tryd.underlying9 (owns_below HO1'.out (HB27.out.trans (hb.mono HB27.out.size)))
  have hcv2 : ∀ w', Below w7.heap.size w7 w' → (convert 23 9 (.slice (some ⟨gg2, 0, none⟩) vs.length c2)).run Tryd.prog w' = .ok (.string (str vs)) w' := by
    intro w' hb
    exact run_string_of_owned (P := Tryd.prog) 23 5 9 Tryd.underlying23 Tryd.underlying5 Tryd.underlying9 (owns_below HO2.out (HB27.out.trans (hb.mono HB27.out.size)))
  clear hb7 HO1' HO2 HS HB26 HB6 HB24 HB27 HB2
  have hbr : Below w7.heap.size w7 w7 := Below.refl _ _
  have hbd : Below w7.heap.size w7 w7.drew := hbr.drew
  go_wp2_with fail
  rw [← conv64_is, ← conv71_is]
  go_region_held3 (fun w' => Below w7.heap.size w7 w')
    (first | (with_reducible exact hbr) | (with_reducible exact hbd) | (with_reducible exact hb8) | (with_reducible exact hb9) | (with_reducible exact hb10))
    (first | (go_at_call 14; refine (HI.out w7 _ hbd).mono ?_; rintro e w8 ⟨ao8, n8, c8, rfl, hb8, hcv8⟩; have hcv8' := hcv8 w8 (Below.refl _ _)) | (go_at_call 15; refine (HJ.out w7 _ hb8).mono ?_; rintro e w9 ⟨ao9, n9, c9, rfl, hb9, hcv9⟩; have hcv9' := hcv9 w9 (Below.refl _ _)) | (go_at_call 5; refine (works_any _).mono ?_; rintro e w10 ⟨rfl, hbw⟩; have hb10 : Below w7.heap.size w7 w10 := hb9.trans (hbw.mono hb9.size)) | fail)
  have HE : Hid (Below w.heap.size w w10) := HB7.out.trans (hb10.mono HB7.out.size)
  clear hcv1 hcv2 hcv8 hcv8' hcv9 hcv9' hbr hbd hb8 hb9 hbw hb10
  go_wp2_with fail
  go_ret
  exact ⟨rfl, HE.out⟩
end Go.Proofs.YtgjlbodclfhlfaaDoor
