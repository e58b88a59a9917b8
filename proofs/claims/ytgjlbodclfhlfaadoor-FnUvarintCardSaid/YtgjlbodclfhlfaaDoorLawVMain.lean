/-
  FnVarfloat: its main way.
-/
import Derived.Test.YtgjlbodclfhlfaaDoorLawV
namespace Go.Proofs.YtgjlbodclfhlfaaDoor
open Go.RowKit

/-- The conversion of what Varfloat has handed back: named, so that the region's walk doesn't try to run it ahead of the call. -/
def conv37 : Op := .convert 23 9 (.tmp 37)
@[go_sem] theorem conv37_is : conv37 = .convert 23 9 (.tmp 37) := rfl

/-- What is owned is owned where nothing below has changed. -/
theorem owns_below {base : Nat} {e : TypeId} {size : Nat} {v : Value} {n : Nat} {xs : List Value} {w w' : World} (hw : w.ownsRow base e size v n xs) (hb : Below w.heap.size w w') : w'.ownsRow base e size v n xs := by
  obtain ⟨h1, h2⟩ := hw
  refine ⟨h1, ?_⟩
  rcases h2 with h2 | ⟨g, cap, cur, hv, hg, hh, r⟩
  · exact Or.inl h2
  · exact Or.inr ⟨g, cap, cur, hv, hg, (hb.block g (lt_of_block hh)).trans hh, r⟩

theorem fromV_some {z y : Nat} {t : List Nat} {w w' : World} {e : Ending} (h : fromVGives z (some (y, t)) w e w') : e = .returned (.tuple #[.float .f64 z, .int .i64 (t.length : Nat), .bool true]) ∧ Below w.heap.size w w' := h

set_option maxRecDepth 100000 in
set_option maxHeartbeats 2000000 in
theorem fnVarfloat_in (fb c : Nat) (ys : List Nat) (ao : Option Addr) (w : World) (h0 : ys.length ≤ 50) (hby : ∀ x ∈ ys, x < 256) (hy : Lies w ao ys) (hT : TabAt w) (hg : 1 < w.heap.size)
    (k1 : (FloatKind.f64.format.order fb 0 == some .gt || FloatKind.f64.format.order fb 0 == some .eq) = true) (k2 : (FloatKind.f64.format.order fb 4841369599423283200 == some .lt || FloatKind.f64.format.order fb 4841369599423283200 == some .eq) = true) :
    Calls Tryd.prog 3 #[.float .f64 fb, .slice ao ys.length c] w fun e w' => IsTrue w e w' := by
  obtain ⟨r, z, m, hr, hrl, hz, hm, hw⟩ := whole_facts fb k1 k2
  have hV := specV_any fb r w hr
  obtain ⟨a, ha⟩ : ∃ a, (encU 8 0).length = a := ⟨_, rfl⟩
  obtain ⟨b, hb⟩ : ∃ b, (encU 8 (folded 0)).length = b := ⟨_, rfl⟩
  have hS : ∀ w', Below w.heap.size w w' → Calls Tryd.prog 7 #[.int .u64 0, .int .i64 0, .float .f64 fb] w' fun e w2 => GivesSizes a b (encV 8 (turned r)).length w' e w2 :=
    fun w' hbl => sizes_any 0 0 fb r a b _ w' (by decide) (by decide) (by decide) hr (hT.below hbl hg) (Nat.lt_of_lt_of_le hg hbl.size) ha hb rfl
  have hI := fun w => implVarfloat_any fb r _ rfl w hr
  have hlv := (encV_len 8 (turned r)).1
  have hlv2 := (encV_len 8 (turned r)).2
  have hbv := encV_byte 8 (turned r) (turned_lt r)
  have hdv := decV_read (turned r) ys (turned_lt r)
  have hzz : ∀ y rest, decV 0 0 (encV 8 (turned r) ++ ys) = some (y, rest) → floatBits .sub .f64 (unturned y) 4607182418800017408 = some z := by
    intro y rest he
    rw [hdv] at he
    cases he
    rw [unturned_turned r hrl]; exact hz
  have hF : ∀ g cp w', (∀ i, (h : i < (encV 8 (turned r) ++ ys).length) → w'.cell? ⟨g, 0 + i, none⟩ = some (.int .u8 ((encV 8 (turned r) ++ ys)[i] : Int))) →
      Calls Tryd.prog 9 #[.slice (some ⟨g, 0, none⟩) ((encV 8 (turned r)).length + ys.length) cp] w' fun e w2 => fromVGives z (some (turned r, ys)) w' e w2 := by
    intro g cp w' hc
    have := fromV_any g 0 cp (encV 8 (turned r) ++ ys) z _ w' (by rw [List.length_append]; omega) (fun x hx => (List.mem_append.1 hx).elim (hbv x) (hby x)) hzz hdv hc
    rwa [List.length_append] at this
  clear hzz hdv hbv hr hz hrl hby hT ha hb
  revert hV hS hI hlv hlv2 hF
  generalize encV 8 (turned r) = vs
  generalize turned r = tr
  intro hV hS hI hlv hlv2 hF
  have HF := Lib.hid hF
  have HY := Lib.hid hy
  have HS := Lib.hid hS
  clear hF hy hS
  have g1 : ¬ (ys.length : Int) > 2147483647 := by omega
  have g2 : ¬ (ys.length : Int) > 50 := by omega
  go_enter Tryd.func3, Tryd.ntmps3
  go_wp2_with fail
  refine hV.mono ?_
  clear hV
  rintro e w1 ⟨ao1, n1, c1, rfl, ⟨ho1, -⟩, hb1⟩
  obtain ⟨gg1, rfl, rfl, hc1, hm1, hx1⟩ := owns_some ho1 hlv
  have HO := Lib.hid ho1
  have HX := Lib.hid hx1
  have HB1 := Lib.hid hb1
  clear ho1 hx1 hb1
  go_wp2_with fail
  refine (HS.out w1 HB1.out).mono ?_
  rintro e w2 ⟨rfl, hb2⟩
  have HB2 := Lib.hid (HB1.out.trans (hb2.mono HB1.out.size))
  have HB2' := Lib.hid hb2
  clear hb2
  have hcv : ∀ w', Below w2.heap.size w2 w' → (convert 23 9 (.slice (some ⟨gg1, 0, none⟩) vs.length c1)).run Tryd.prog w' = .ok (.string (str vs)) w' := by
    intro w' hb
    refine run_string_of_owned (P := Tryd.prog) 23 5 9 Tryd.underlying23 Tryd.underlying5 Tryd.underlying9 (n := vs.length) (xs := vs) (base := 0) ?_
    exact owns_below HO.out (HB2'.out.trans (hb.mono HB2'.out.size))
  have hI' : ∀ w', Below w2.heap.size w2 w' → Calls Tryd.prog 8 #[.float .f64 fb] w' fun e w3 => ∃ ao n c, e = .returned (.slice ao n c) ∧ Below w2.heap.size w2 w3 ∧ ∀ w4, Below w3.heap.size w3 w4 → (convert 23 9 (.slice ao n c)).run Tryd.prog w4 = .ok (.string (str vs)) w4 := by
    intro w' hb
    refine (hI w').mono ?_
    rintro e w3 ⟨ao, n, c, rfl, ⟨ho, -⟩, hb3⟩
    refine ⟨ao, n, c, rfl, hb.trans (hb3.mono hb.size), fun w4 hb4 => ?_⟩
    exact run_string_of_owned (P := Tryd.prog) 23 5 9 Tryd.underlying23 Tryd.underlying5 Tryd.underlying9 (owns_below ho hb4)
  have HI := Lib.hid hI'
  clear hI hI'
  have hbr : Below w2.heap.size w2 w2 := Below.refl _ _
  have hbd : Below w2.heap.size w2 w2.drew := hbr.drew
  go_wp2_with fail
  rw [← conv37_is]
  go_region_held3 (fun w' => Below w2.heap.size w2 w')
    (first | (with_reducible exact hbr) | (with_reducible exact hbd) | (with_reducible exact hb3))
    (first | (go_at_call 8; refine (HI.out _ hbd).mono ?_; rintro e w3 ⟨ao3, n3, c3, rfl, hb3, hcv3⟩; have hcv3' := hcv3 w3 (Below.refl _ _)) | fail)
  have HB3 := Lib.hid hb3
  have hsl := run_slice_full (P := Tryd.prog) 23 5 Tryd.underlying23 (some ⟨gg1, 0, none⟩) vs.length c1 vs.length (vs.length : Int) rfl hc1 Tryd.sizeU8
  have HY3 : Hid (Lies w3 ao ys) := (HY.out.below HB1.out (Nat.le_refl _)).below (HB2'.out.trans (hb3.mono HB2'.out.size)) (Nat.le_refl _)
  have HX3 : Hid (∀ i, (h : i < vs.length) → w3.cell? ⟨gg1, 0 + i, none⟩ = some (.int .u8 (vs[i] : Int))) := fun i h => cell_later (HB2'.out.trans (hb3.mono HB2'.out.size)) (HX.out i h)
  clear hcv hcv3 hcv3' hbr hbd hb3 HI HS
  go_wp2_with (at_builtin; refine wpList_append_exact w3 rfl _ _ 23 5 rfl Tryd.underlying23 Tryd.infoU8 gg1 c vs ys ao rfl rfl HX3.out HY3.out (by omega) ?_; intro g4 c4 w4 hx4 hf4)
  have HB4 : Hid (Below w.heap.size w w4) := HB2.out.trans ((HB3.out.mono HB2.out.size).trans (hf4.below (fun _ h => h.elim) (Nat.le_trans HB2.out.size HB3.out.size)))
  refine (HF.out g4 c4 w4 hx4).mono ?_
  clear HF hx4 hf4 HX3 HY3 hsl HX HY
  rintro e w5 hd5
  obtain ⟨rfl, hb5⟩ := fromV_some hd5
  have HB5 : Hid (Below w.heap.size w w5) := HB4.out.trans (hb5.mono HB4.out.size)
  clear hd5 hb5
  have hcI := fun w => run_convert_float_int (P := Tryd.prog) w 22 2 .f64 .i64 fb m (by simp [Tryd.underlying22]) Tryd.underlying2 hm
  have hcF := fun w => run_convert_int_float (P := Tryd.prog) w 2 22 .i64 .f64 m (by simp [Tryd.underlying2]) Tryd.underlying22
  clear hm
  revert hw hcF
  generalize floatOfInt .f64 m = f2
  intro hw hcF
  by_cases hE : FloatKind.f64.format.order fb f2 = some .eq
  · have hE2 := hw hE
    clear hw
    go_wp2_with (go_at_call 5; refine (works_any _).mono ?_; rintro e w6 ⟨rfl, hb6⟩)
    all_goals
      go_ret
      exact ⟨rfl, HB5.out.trans (hb6.mono HB5.out.size)⟩
  · clear hw
    go_wp2_with (go_at_call 5; refine (works_any _).mono ?_; rintro e w6 ⟨rfl, hb6⟩)
    all_goals
      go_ret
      exact ⟨rfl, HB5.out.trans (hb6.mono HB5.out.size)⟩
end Go.Proofs.YtgjlbodclfhlfaaDoor
