/-
  laws.FnMerged: it is true, whatever the input.
-/
import Derived.Test.YtnmbjalojgccmaaGreatTH
import Derived.Test.YtnmbjalojgccmaaGreatMN
import Derived.Test.YtnmbjalojgccmaaGreatTI
import Derived.Test.YtnmbjalojgccmaaGreatRows
import Derived.ProofKit
import Derived.OpenShut
section
namespace Go.Proofs.YtnmbjalojgccmaaGreat
open Go.RowKit

set_option maxRecDepth 100000 in
set_option maxHeartbeats 2000000 in
theorem fnMerged_any (kind most other om : Int) (ao ap : Option Addr) (cp cq : Nat) (ps qs : List (Int × Nat)) (w : World) (hl : Lie2 w ao ps) (hl2 : Lie2 w ap qs) (hbits : ∀ p ∈ ps, p.2 < 18446744073709551616) (hbits2 : ∀ p ∈ qs, p.2 < 18446744073709551616) :
    Calls Tryz.prog 6 #[.int .i64 kind, .int .i64 most, .slice ao ps.length cp, .int .i64 other, .int .i64 om, .slice ap qs.length cq] w fun e w' => IsTrue w e w' := by
  by_cases hz : 2147483647 < ps.length
  · have hz1 : decide ((2147483647 : Int) < ps.length) = true := by simp; omega
    clear hl hl2 hbits hbits2 hz
    go_enter Tryz.func6, Tryz.ntmps6
    go_wp2
    go_ret
    exact ⟨rfl, Below.refl _ _⟩
  have hz1 : decide ((2147483647 : Int) < ps.length) = false := by simp; omega
  by_cases hy : 2147483647 < qs.length
  · have hy1 : decide ((2147483647 : Int) < qs.length) = true := by simp; omega
    clear hl hl2 hbits hbits2 hy hz
    go_enter Tryz.func6, Tryz.ntmps6
    go_wp2
    go_ret
    exact ⟨rfl, Below.refl _ _⟩
  have hy1 : decide ((2147483647 : Int) < qs.length) = false := by simp; omega
  have hz3 : ps.length ≤ 2147483647 := by omega
  have hy3 : qs.length ≤ 2147483647 := by omega
  have HB := bins_any ao cp ps w hl hz3
  have HL := Lib.hid hl
  have HL2 := Lib.hid hl2
  have HBI := Lib.hid hbits
  have HBI2 := Lib.hid hbits2
  have HZ3 := Lib.hid hz3
  have HY3 := Lib.hid hy3
  clear hl hl2 hbits hbits2 hz hz3 hy hy3
  go_enter Tryz.func6, Tryz.ntmps6
  go_wp2_with fail
  refine HB.mono ?_
  clear HB
  rintro e w1 ⟨a1, c1, rfl, hown, hb1⟩
  have hlie1 := (lie2_of_owns hown.1).2.2.2
  have HC1 := Lib.hid (lie2_of_owns hown.1).2.1
  have HB := bins_any ap cq qs w1 (HL2.out.later hb1) HY3.out
  have HL1 := Lib.hid hlie1
  have HB1 := Lib.hid hb1
  clear hown hlie1 hb1
  go_wp2_with fail
  refine HB.mono ?_
  clear HB
  rintro e w2 ⟨a2, c2, rfl, hown, hb2⟩
  have HLq := Lib.hid (lie2_of_owns hown.1).2.2.2
  have HLp := Lib.hid (HL1.out.later hb2)
  have HB2 := Lib.hid (HB1.out.trans (hb2.mono HB1.out.size))
  clear hown hb2 HL1 HB1
  have HK := known_any kind most w2
  go_wp2_with fail
  refine HK.mono ?_
  clear HK
  rintro e w' ⟨rfl, rfl⟩
  cases hk : knownB kind most
  · clear hk
    have HW := works_any w2
    go_wp2_with fail
    refine HW.mono ?_
    clear HW
    rintro e w9 ⟨rfl, hb9⟩
    have HB9 := Lib.hid (HB2.out.trans (hb9.mono HB2.out.size))
    clear hb9
    go_wp2
    go_ret
    exact ⟨rfl, HB9.out⟩
  have HKN := Lib.hid hk
  clear hk
  have HK := known_any other om w2
  go_wp2_with fail
  refine HK.mono ?_
  clear HK
  rintro e w' ⟨rfl, rfl⟩
  cases hk : knownB other om
  · clear hk
    have HW := works_any w2
    go_wp2_with fail
    refine HW.mono ?_
    clear HW
    rintro e w9 ⟨rfl, hb9⟩
    have HB9 := Lib.hid (HB2.out.trans (hb9.mono HB2.out.size))
    clear hb9
    go_wp2
    go_ret
    exact ⟨rfl, HB9.out⟩
  have HKO := Lib.hid hk
  clear hk
  have HP := proper_any a1 c1 ps w2 HLp.out HZ3.out
  go_wp2_with fail
  refine HP.mono ?_
  clear HP
  rintro e w3 ⟨rfl, hb3⟩
  have HB3 := Lib.hid (HB2.out.trans (hb3.mono HB2.out.size))
  have HLp3 := Lib.hid (HLp.out.later hb3)
  have HLq3 := Lib.hid (HLq.out.later hb3)
  clear hb3
  cases hpr : properB ps
  · clear hpr
    have HW := works_any w3
    go_wp2_with fail
    refine HW.mono ?_
    clear HW
    rintro e w9 ⟨rfl, hb9⟩
    have HB9 := Lib.hid (HB3.out.trans (hb9.mono HB3.out.size))
    clear hb9
    go_wp2
    go_ret
    exact ⟨rfl, HB9.out⟩
  have HPR := Lib.hid hpr
  clear hpr
  have HP := proper_any a2 c2 qs w3 HLq3.out HY3.out
  go_wp2_with fail
  refine HP.mono ?_
  clear HP
  rintro e w4 ⟨rfl, hb4⟩
  have HB4 := Lib.hid (HB3.out.trans (hb4.mono HB3.out.size))
  have HLp4 := Lib.hid (HLp3.out.later hb4)
  have HLq4 := Lib.hid (HLq3.out.later hb4)
  clear hb4
  cases hpr : properB qs
  · clear hpr
    have HW := works_any w4
    go_wp2_with fail
    refine HW.mono ?_
    clear HW
    rintro e w9 ⟨rfl, hb9⟩
    have HB9 := Lib.hid (HB4.out.trans (hb9.mono HB4.out.size))
    clear hb9
    go_wp2
    go_ret
    exact ⟨rfl, HB9.out⟩
  have HPRQ := Lib.hid hpr
  clear hpr
  by_cases hg : ps = [] ∧ kind = other ∧ 3 ≤ kind
  · obtain ⟨rfl, rfl, h3⟩ := hg
    have e3 : decide (3 ≤ kind) = true := by simpa using h3
    have HW := works_any w4
    go_wp2_with fail
    refine HW.mono ?_
    clear HW
    rintro e w9 ⟨rfl, hb9⟩
    have HB9 := Lib.hid (HB4.out.trans (hb9.mono HB4.out.size))
    clear hb9
    go_wp2
    go_ret
    exact ⟨rfl, HB9.out⟩
  obtain ⟨xs, hxs, hr, hp, ht, hn⟩ := proper_bins HPR.out HBI.out
  obtain ⟨ys, hys, hr2, hp2, ht2, hn2⟩ := proper_bins HPRQ.out HBI2.out
  have hpl : ps.length = xs.length := by rw [hxs, fb_length]
  have hql : qs.length = ys.length := by rw [hys, fb_length]
  have hax : Lie2 w ao (fb xs) := by rw [← hxs]; exact HL.out
  have hay : Lie2 w ap (fb ys) := by rw [← hys]; exact HL2.out
  have h1x : Lie2 w4 a1 (fb xs) := by rw [← hxs]; exact HLp4.out
  have h2y : Lie2 w4 a2 (fb ys) := by rw [← hys]; exact HLq4.out
  have hfew : Few kind most xs := ⟨HKN.out, hr, hp, by omega, by omega⟩
  have hfo : Few other om ys := ⟨HKO.out, hr2, hp2, by omega, by omega⟩
  have hgx : 3 ≤ kind → kind = other → xs ≠ [] := fun h3 h4 h5 => hg ⟨by rw [hxs, h5]; rfl, h4, h3⟩
  obtain ⟨K, O, ⟨D⟩, ⟨V⟩⟩ := merge_all HKN.out HKO.out
  have hfit : Fits2 kind most xs (keptB other om ys) := Fits2.of hfew hfo hn hn2 (by omega)
  have hfa := hfit.few
  have HMG := fun W (h : Below w.heap.size w W) => merged_any D V most om ao ap cp cq xs ys W hfew hfo (hax.later h) (hay.later h) hn hn2 (by omega) hgx
  have HKY := fun W (h : Below w4.heap.size w4 W) => kept_any a2 c2 other om ys W (h2y.later h) hr2 HKO.out (by omega) (by omega)
  obtain ⟨ks, hks⟩ : ∃ ks, ks = keptB other om ys := ⟨_, rfl⟩
  rw [← hks] at HMG HKY hfa
  obtain ⟨zs, hzs⟩ : ∃ zs, zs = xs ++ ks := ⟨_, rfl⟩
  rw [← hzs] at HMG hfa
  have HKZ := fun W a c (h : Lie2 W a (fb zs)) => kept_any a c kind most zs W h hfa.inR HKN.out (by have := hfa.len; omega) (by have := hfa.tot; omega)
  have hkl := kept_len kind most zs
  have hkt := kept_tot kind most zs
  obtain ⟨ms, hms⟩ : ∃ ms, ms = keptB kind most zs := ⟨_, rfl⟩
  have hnil : zs = [] → ms = [] := fun e => by rw [hms, e]; exact kept_nil kind most
  rw [← hms] at HMG HKZ hkl hkt
  rw [← hpl, ← hql] at HMG
  rw [← hql] at HKY
  have hzl := hfa.len
  have hzt := hfa.tot
  have HSL := fun ao2 a3 c c3 W h1 h2 => stateLaw_any ao2 a3 c c3 zs ms W hnil hkt hfa.pos h1 h2 (by omega) (by omega)
  have hsl : ∀ w, (Instr.slice 24 (.slice a1 ps.length c1) none (some (.int .i64 (ps.length : Int))) (some (.int .i64 (ps.length : Int)))).run Tryz.prog w = .ok (.slice a1 ps.length ps.length) w := fun w =>
    run_slice_full (P := Tryz.prog) 24 44 Tryz.underlying24 a1 ps.length c1 ps.length _ rfl HC1.out (z := 2) (fun w => by kernel_rfl) w
  obtain ⟨N, hN⟩ : ∃ N, N = ps.length := ⟨_, rfl⟩
  rw [← hN] at HMG hpl hsl ⊢
  have hg2 : N = 0 → ¬ (kind = other ∧ 3 ≤ kind) := fun h0 h => hg ⟨List.eq_nil_of_length_eq_zero (by omega), h.1, h.2⟩
  clear hg hN
  have HMGG := Lib.hid HMG
  have HKYY := HKY w4.drew (Below.refl _ w4).drew
  have HKZZ := Lib.hid HKZ
  have HSLL := Lib.hid HSL
  have HX1 := Lib.hid h1x
  have HPL := Lib.hid hpl
  have HQL := Lib.hid hql
  have HZS := Lib.hid hzs
  have HN := Lib.hid hn
  have HZF : Hid (fb xs ++ fb ks = fb zs) := by show _ = _; rw [hzs]; simp [fb]
  have HKSL : Hid (ks.length ≤ 60) := by show _ ≤ _; have := kept_len other om ys; rw [← hks] at this; omega
  clear hax hay h1x h2y hfew hfo hgx D V hfit HMG HKY HKZ HSL hkl hkt hms hnil hzl hzt hks hzs hxs hys hr hr2 hp hp2 ht ht2 hn hn2 hpl hql HL HL2 HBI HBI2 HKN HKO HPR HPRQ HLp HLq HLp3 HLq3 HLp4 HLq4 hfa
  by_cases h0 : N = 0
  · subst h0
    have hg' := hg2 rfl
    clear hg2
    have hsl0 : ∀ w, (Instr.slice 24 (.slice a1 0 c1) none (some (.int .i64 0)) (some (.int .i64 0))).run Tryz.prog w = .ok (.slice a1 0 0) w := hsl
    clear hsl
    by_cases hko : kind = other
    · subst hko
      have g3 : decide (3 ≤ kind) = false := by simp; exact Int.not_le.1 (fun h => hg' ⟨rfl, h⟩)
      clear hg'
      go_wp2
      go_region_law (first | (go_simp; go_at_call 14; (with_reducible refine HKYY.mono ?_); rintro e w5 ⟨a5, c5, rfl, hown5, hb5⟩; have HO5 := Lib.hid hown5; have HB5 := Lib.hid hb5; clear hown5 hb5 HKYY; rw [fb_length]) | (rw [if_pos (by rfl)]; refine wp_append_bins w5 _ _ 24 44 (.agg #[.int .i64 0, .float .f64 0]) rfl Tryz.underlying24 Tryz.infoSB a1 a5 0 ks.length c5 (fb xs) (fb ks) (by rw [fb_length]; exact HPL.out) (by rw [fb_length]) rfl rfl (HX1.out.later ((Below.refl _ w4).drew.trans HB5.out)) (lie2_of_owns HO5.out.1).2.2.2 (by rw [fb_length, fb_length]; have := HN.out; have := HKSL.out; omega) ?_; intro a6 c6 w6 hl6 hb6; rw [HZF.out] at hl6 ⊢; rw [fb_length]; have HL6 := Lib.hid hl6; have HB6 := Lib.hid hb6; clear hl6 hb6))
      have hb46 : Below w4.heap.size w4 w6 := (Below.refl _ w4).drew.trans (HB5.out.trans (HB6.out.mono HB5.out.size))
      have HB60 := HB6
      clear HB6
      have HB6 := Lib.hid (HB4.out.trans (hb46.mono HB4.out.size))
      go_wp2_with fail
      refine (HMGG.out w6 HB6.out).mono ?_
      clear hb46
      rintro e wm ⟨am, cm, rfl, h1, -, hb3⟩
      have hlie3 : Lie2 wm am (fb ms) := by rw [← fb_length ms] at h1; exact (lie2_of_owns h1).2.2.2
      have HL3 := Lib.hid hlie3
      have HBm := Lib.hid (HB6.out.trans (hb3.mono HB6.out.size))
      have HB2m := Lib.hid hb3
      clear h1 hb3 hlie3
      obtain ⟨W, hW⟩ : ∃ W, W = wm.alloc (.cells (stateV am cm zs ms) 38) := ⟨_, rfl⟩
      have hbW : Below wm.heap.size wm W := by rw [hW]; exact (Below.refl _ wm).alloc (Nat.le_refl _) _
      have hcW : W.heap[wm.heap.size]? = some (.cells (stateV am cm zs ms) 38 (0, 0)) := by rw [hW]; exact heap_alloc_new wm _
      unfold stateV at hW hcW ⊢
      have hS : ∀ W', Below W.heap.size W W' → W'.heap[wm.heap.size]? = _ := fun W' h => (h.5 _ (lt_of_block hcW)).trans hcW
      have hin : ∀ W', Below W.heap.size W W' → (Below W.heap.size W W' ∧ (W'.cell? ⟨wm.heap.size, 0, none⟩ = some (.slice am ms.length cm) ∧ W'.cell? ⟨wm.heap.size, 1, none⟩ = some (.float .f64 (nf (tot zs))) ∧ W'.cell? ⟨wm.heap.size, 2, none⟩ = some (.bool zs.isEmpty) ∧ W'.cell? ⟨wm.heap.size, 3, none⟩ = some (.int .i64 (lowE zs ms)) ∧ W'.cell? ⟨wm.heap.size, 4, none⟩ = some (.int .i64 (topE zs ms)))) := fun W' h => by
        obtain ⟨z0, z1, z2, z3, z4⟩ := state_cells (hS W' h)
        exact ⟨h, z0, z1, z2, z3, z4⟩
      have hs0 := hin W (Below.refl _ W)
      have hs1 := hin W.drew (Below.refl _ W).drew
      have hbd : Below W.heap.size W W.drew := (Below.refl _ W).drew
      have HIN := Lib.hid hin
      have HBW := Lib.hid hbW
      have HW := Lib.hid hW
      clear hW hbW hcW hS hin
      go_wp2_with fail
      rw [← HW.out]
      have hkp2 : ∀ W', Below W.heap.size W W' → Calls Tryz.prog 14 #[.int .i64 kind, .int .i64 most, .slice a6 zs.length c6] W' fun e w' => GivesP 44 (fb ms) W' e w' := fun W' h =>
        HKZZ.out W' a6 c6 (HL6.out.later (HB2m.out.trans ((HBW.out.trans (h.mono HBW.out.size)).mono HB2m.out.size)))
      have hsl2 : ∀ a c W', Below W.heap.size W W' → Lie2 W' a (fb ms) → Calls Tryz.prog 19 #[.agg #[.slice am ms.length cm, .float .f64 (nf (tot zs)), .bool zs.isEmpty, .int .i64 (lowE zs ms), .int .i64 (topE zs ms)], .slice a ms.length c] W' fun e w' => IsTrue W' e w' := fun a c W' h h2 =>
        HSLL.out am a cm c W' (HL3.out.later (HBW.out.trans (h.mono HBW.out.size))) h2
      have HKP2 := Lib.hid hkp2
      have HSL2 := Lib.hid hsl2
      have HWK : Hid (∀ W, Calls Tryz.prog 13 #[] W fun e w' => IsTrue W e w') := fun W => works_any W
      clear hkp2 hsl2
      go_region_held3 (fun W' => Below W.heap.size W W' ∧ (W'.cell? ⟨wm.heap.size, 0, none⟩ = some (.slice am ms.length cm) ∧ W'.cell? ⟨wm.heap.size, 1, none⟩ = some (.float .f64 (nf (tot zs))) ∧ W'.cell? ⟨wm.heap.size, 2, none⟩ = some (.bool zs.isEmpty) ∧ W'.cell? ⟨wm.heap.size, 3, none⟩ = some (.int .i64 (lowE zs ms)) ∧ W'.cell? ⟨wm.heap.size, 4, none⟩ = some (.int .i64 (topE zs ms))))
        (first | (with_reducible exact hs0) | (with_reducible exact hs1) | (with_reducible exact hs7) | (with_reducible exact hs8) | (with_reducible exact hs9))
        (first | (go_at_call 14; refine (HKP2.out _ hbd).mono ?_; rintro e w7 ⟨a7, c7, rfl, hown7, hb7⟩; have hb7' := hbd.trans (hb7.mono hbd.size); have hlie7 := (lie2_of_owns hown7.1).2.2.2; have hs7 := HIN.out w7 hb7'; have HL7 := Lib.hid hlie7; clear hown7 hb7 hlie7; rw [fb_length]) | (go_at_call 19; refine (HSL2.out _ _ _ hb7' HL7.out).mono ?_; rintro e w8 ⟨rfl, hb8⟩; have hb8' := hb7'.trans (hb8.mono hb7'.size); have hs8 := HIN.out w8 hb8') | (go_at_call 13; refine (HWK.out _).mono ?_; rintro e w9 ⟨rfl, hb9⟩; have hb9' := hb8'.trans (hb9.mono hb8'.size); have hs9 := HIN.out w9 hb9') | fail)
      have HB9 := Lib.hid (HBm.out.trans ((HBW.out.trans (hb9'.mono HBW.out.size)).mono HBm.out.size))
      go_wp2
      go_ret
      exact ⟨rfl, HB9.out⟩
    · have g4 : decide (kind = other) = false := by simpa using hko
      clear hg'
      go_wp2
      go_region_law (first | (go_simp; go_at_call 14; (with_reducible refine HKYY.mono ?_); rintro e w5 ⟨a5, c5, rfl, hown5, hb5⟩; have HO5 := Lib.hid hown5; have HB5 := Lib.hid hb5; clear hown5 hb5 HKYY; rw [fb_length]) | (rw [if_pos (by rfl)]; refine wp_append_bins w5 _ _ 24 44 (.agg #[.int .i64 0, .float .f64 0]) rfl Tryz.underlying24 Tryz.infoSB a1 a5 0 ks.length c5 (fb xs) (fb ks) (by rw [fb_length]; exact HPL.out) (by rw [fb_length]) rfl rfl (HX1.out.later ((Below.refl _ w4).drew.trans HB5.out)) (lie2_of_owns HO5.out.1).2.2.2 (by rw [fb_length, fb_length]; have := HN.out; have := HKSL.out; omega) ?_; intro a6 c6 w6 hl6 hb6; rw [HZF.out] at hl6 ⊢; rw [fb_length]; have HL6 := Lib.hid hl6; have HB6 := Lib.hid hb6; clear hl6 hb6))
      have hb46 : Below w4.heap.size w4 w6 := (Below.refl _ w4).drew.trans (HB5.out.trans (HB6.out.mono HB5.out.size))
      have HB60 := HB6
      clear HB6
      have HB6 := Lib.hid (HB4.out.trans (hb46.mono HB4.out.size))
      go_wp2_with fail
      refine (HMGG.out w6 HB6.out).mono ?_
      clear hb46
      rintro e wm ⟨am, cm, rfl, h1, -, hb3⟩
      have hlie3 : Lie2 wm am (fb ms) := by rw [← fb_length ms] at h1; exact (lie2_of_owns h1).2.2.2
      have HL3 := Lib.hid hlie3
      have HBm := Lib.hid (HB6.out.trans (hb3.mono HB6.out.size))
      have HB2m := Lib.hid hb3
      clear h1 hb3 hlie3
      obtain ⟨W, hW⟩ : ∃ W, W = wm.alloc (.cells (stateV am cm zs ms) 38) := ⟨_, rfl⟩
      have hbW : Below wm.heap.size wm W := by rw [hW]; exact (Below.refl _ wm).alloc (Nat.le_refl _) _
      have hcW : W.heap[wm.heap.size]? = some (.cells (stateV am cm zs ms) 38 (0, 0)) := by rw [hW]; exact heap_alloc_new wm _
      unfold stateV at hW hcW ⊢
      have hS : ∀ W', Below W.heap.size W W' → W'.heap[wm.heap.size]? = _ := fun W' h => (h.5 _ (lt_of_block hcW)).trans hcW
      have hin : ∀ W', Below W.heap.size W W' → (Below W.heap.size W W' ∧ (W'.cell? ⟨wm.heap.size, 0, none⟩ = some (.slice am ms.length cm) ∧ W'.cell? ⟨wm.heap.size, 1, none⟩ = some (.float .f64 (nf (tot zs))) ∧ W'.cell? ⟨wm.heap.size, 2, none⟩ = some (.bool zs.isEmpty) ∧ W'.cell? ⟨wm.heap.size, 3, none⟩ = some (.int .i64 (lowE zs ms)) ∧ W'.cell? ⟨wm.heap.size, 4, none⟩ = some (.int .i64 (topE zs ms)))) := fun W' h => by
        obtain ⟨z0, z1, z2, z3, z4⟩ := state_cells (hS W' h)
        exact ⟨h, z0, z1, z2, z3, z4⟩
      have hs0 := hin W (Below.refl _ W)
      have hs1 := hin W.drew (Below.refl _ W).drew
      have hbd : Below W.heap.size W W.drew := (Below.refl _ W).drew
      have HIN := Lib.hid hin
      have HBW := Lib.hid hbW
      have HW := Lib.hid hW
      clear hW hbW hcW hS hin
      go_wp2_with fail
      rw [← HW.out]
      have hkp2 : ∀ W', Below W.heap.size W W' → Calls Tryz.prog 14 #[.int .i64 kind, .int .i64 most, .slice a6 zs.length c6] W' fun e w' => GivesP 44 (fb ms) W' e w' := fun W' h =>
        HKZZ.out W' a6 c6 (HL6.out.later (HB2m.out.trans ((HBW.out.trans (h.mono HBW.out.size)).mono HB2m.out.size)))
      have hsl2 : ∀ a c W', Below W.heap.size W W' → Lie2 W' a (fb ms) → Calls Tryz.prog 19 #[.agg #[.slice am ms.length cm, .float .f64 (nf (tot zs)), .bool zs.isEmpty, .int .i64 (lowE zs ms), .int .i64 (topE zs ms)], .slice a ms.length c] W' fun e w' => IsTrue W' e w' := fun a c W' h h2 =>
        HSLL.out am a cm c W' (HL3.out.later (HBW.out.trans (h.mono HBW.out.size))) h2
      have HKP2 := Lib.hid hkp2
      have HSL2 := Lib.hid hsl2
      have HWK : Hid (∀ W, Calls Tryz.prog 13 #[] W fun e w' => IsTrue W e w') := fun W => works_any W
      clear hkp2 hsl2
      go_region_held3 (fun W' => Below W.heap.size W W' ∧ (W'.cell? ⟨wm.heap.size, 0, none⟩ = some (.slice am ms.length cm) ∧ W'.cell? ⟨wm.heap.size, 1, none⟩ = some (.float .f64 (nf (tot zs))) ∧ W'.cell? ⟨wm.heap.size, 2, none⟩ = some (.bool zs.isEmpty) ∧ W'.cell? ⟨wm.heap.size, 3, none⟩ = some (.int .i64 (lowE zs ms)) ∧ W'.cell? ⟨wm.heap.size, 4, none⟩ = some (.int .i64 (topE zs ms))))
        (first | (with_reducible exact hs0) | (with_reducible exact hs1) | (with_reducible exact hs7) | (with_reducible exact hs8) | (with_reducible exact hs9))
        (first | (go_at_call 14; refine (HKP2.out _ hbd).mono ?_; rintro e w7 ⟨a7, c7, rfl, hown7, hb7⟩; have hb7' := hbd.trans (hb7.mono hbd.size); have hlie7 := (lie2_of_owns hown7.1).2.2.2; have hs7 := HIN.out w7 hb7'; have HL7 := Lib.hid hlie7; clear hown7 hb7 hlie7; rw [fb_length]) | (go_at_call 19; refine (HSL2.out _ _ _ hb7' HL7.out).mono ?_; rintro e w8 ⟨rfl, hb8⟩; have hb8' := hb7'.trans (hb8.mono hb7'.size); have hs8 := HIN.out w8 hb8') | (go_at_call 13; refine (HWK.out _).mono ?_; rintro e w9 ⟨rfl, hb9⟩; have hb9' := hb8'.trans (hb9.mono hb8'.size); have hs9 := HIN.out w9 hb9') | fail)
      have HB9 := Lib.hid (HBm.out.trans ((HBW.out.trans (hb9'.mono HBW.out.size)).mono HBm.out.size))
      go_wp2
      go_ret
      exact ⟨rfl, HB9.out⟩
  · have g1 : decide ((N : Int) = 0) = false := by simp; omega
    have g2 : ¬ (N : Int) = 0 := by omega
    clear hg2
    go_wp2
    go_region_law (first | (go_simp; go_at_call 14; (with_reducible refine HKYY.mono ?_); rintro e w5 ⟨a5, c5, rfl, hown5, hb5⟩; have HO5 := Lib.hid hown5; have HB5 := Lib.hid hb5; clear hown5 hb5 HKYY; rw [fb_length]) | (rw [if_pos (by rfl)]; refine wp_append_bins w5 _ _ 24 44 (.agg #[.int .i64 0, .float .f64 0]) rfl Tryz.underlying24 Tryz.infoSB a1 a5 N ks.length c5 (fb xs) (fb ks) (by rw [fb_length]; exact HPL.out) (by rw [fb_length]) rfl rfl (HX1.out.later ((Below.refl _ w4).drew.trans HB5.out)) (lie2_of_owns HO5.out.1).2.2.2 (by rw [fb_length, fb_length]; have := HN.out; have := HKSL.out; omega) ?_; intro a6 c6 w6 hl6 hb6; rw [HZF.out] at hl6 ⊢; rw [fb_length]; have HL6 := Lib.hid hl6; have HB6 := Lib.hid hb6; clear hl6 hb6))
    have hb46 : Below w4.heap.size w4 w6 := (Below.refl _ w4).drew.trans (HB5.out.trans (HB6.out.mono HB5.out.size))
    have HB60 := HB6
    clear HB6
    have HB6 := Lib.hid (HB4.out.trans (hb46.mono HB4.out.size))
    go_wp2_with fail
    refine (HMGG.out w6 HB6.out).mono ?_
    clear hb46
    rintro e wm ⟨am, cm, rfl, h1, -, hb3⟩
    have hlie3 : Lie2 wm am (fb ms) := by rw [← fb_length ms] at h1; exact (lie2_of_owns h1).2.2.2
    have HL3 := Lib.hid hlie3
    have HBm := Lib.hid (HB6.out.trans (hb3.mono HB6.out.size))
    have HB2m := Lib.hid hb3
    clear h1 hb3 hlie3
    obtain ⟨W, hW⟩ : ∃ W, W = wm.alloc (.cells (stateV am cm zs ms) 38) := ⟨_, rfl⟩
    have hbW : Below wm.heap.size wm W := by rw [hW]; exact (Below.refl _ wm).alloc (Nat.le_refl _) _
    have hcW : W.heap[wm.heap.size]? = some (.cells (stateV am cm zs ms) 38 (0, 0)) := by rw [hW]; exact heap_alloc_new wm _
    unfold stateV at hW hcW ⊢
    have hS : ∀ W', Below W.heap.size W W' → W'.heap[wm.heap.size]? = _ := fun W' h => (h.5 _ (lt_of_block hcW)).trans hcW
    have hin : ∀ W', Below W.heap.size W W' → (Below W.heap.size W W' ∧ (W'.cell? ⟨wm.heap.size, 0, none⟩ = some (.slice am ms.length cm) ∧ W'.cell? ⟨wm.heap.size, 1, none⟩ = some (.float .f64 (nf (tot zs))) ∧ W'.cell? ⟨wm.heap.size, 2, none⟩ = some (.bool zs.isEmpty) ∧ W'.cell? ⟨wm.heap.size, 3, none⟩ = some (.int .i64 (lowE zs ms)) ∧ W'.cell? ⟨wm.heap.size, 4, none⟩ = some (.int .i64 (topE zs ms)))) := fun W' h => by
      obtain ⟨z0, z1, z2, z3, z4⟩ := state_cells (hS W' h)
      exact ⟨h, z0, z1, z2, z3, z4⟩
    have hs0 := hin W (Below.refl _ W)
    have hs1 := hin W.drew (Below.refl _ W).drew
    have hbd : Below W.heap.size W W.drew := (Below.refl _ W).drew
    have HIN := Lib.hid hin
    have HBW := Lib.hid hbW
    have HW := Lib.hid hW
    clear hW hbW hcW hS hin
    go_wp2_with fail
    rw [← HW.out]
    have hkp2 : ∀ W', Below W.heap.size W W' → Calls Tryz.prog 14 #[.int .i64 kind, .int .i64 most, .slice a6 zs.length c6] W' fun e w' => GivesP 44 (fb ms) W' e w' := fun W' h =>
      HKZZ.out W' a6 c6 (HL6.out.later (HB2m.out.trans ((HBW.out.trans (h.mono HBW.out.size)).mono HB2m.out.size)))
    have hsl2 : ∀ a c W', Below W.heap.size W W' → Lie2 W' a (fb ms) → Calls Tryz.prog 19 #[.agg #[.slice am ms.length cm, .float .f64 (nf (tot zs)), .bool zs.isEmpty, .int .i64 (lowE zs ms), .int .i64 (topE zs ms)], .slice a ms.length c] W' fun e w' => IsTrue W' e w' := fun a c W' h h2 =>
      HSLL.out am a cm c W' (HL3.out.later (HBW.out.trans (h.mono HBW.out.size))) h2
    have HKP2 := Lib.hid hkp2
    have HSL2 := Lib.hid hsl2
    have HWK : Hid (∀ W, Calls Tryz.prog 13 #[] W fun e w' => IsTrue W e w') := fun W => works_any W
    clear hkp2 hsl2
    go_region_held3 (fun W' => Below W.heap.size W W' ∧ (W'.cell? ⟨wm.heap.size, 0, none⟩ = some (.slice am ms.length cm) ∧ W'.cell? ⟨wm.heap.size, 1, none⟩ = some (.float .f64 (nf (tot zs))) ∧ W'.cell? ⟨wm.heap.size, 2, none⟩ = some (.bool zs.isEmpty) ∧ W'.cell? ⟨wm.heap.size, 3, none⟩ = some (.int .i64 (lowE zs ms)) ∧ W'.cell? ⟨wm.heap.size, 4, none⟩ = some (.int .i64 (topE zs ms))))
      (first | (with_reducible exact hs0) | (with_reducible exact hs1) | (with_reducible exact hs7) | (with_reducible exact hs8) | (with_reducible exact hs9))
      (first | (go_at_call 14; refine (HKP2.out _ hbd).mono ?_; rintro e w7 ⟨a7, c7, rfl, hown7, hb7⟩; have hb7' := hbd.trans (hb7.mono hbd.size); have hlie7 := (lie2_of_owns hown7.1).2.2.2; have hs7 := HIN.out w7 hb7'; have HL7 := Lib.hid hlie7; clear hown7 hb7 hlie7; rw [fb_length]) | (go_at_call 19; refine (HSL2.out _ _ _ hb7' HL7.out).mono ?_; rintro e w8 ⟨rfl, hb8⟩; have hb8' := hb7'.trans (hb8.mono hb7'.size); have hs8 := HIN.out w8 hb8') | (go_at_call 13; refine (HWK.out _).mono ?_; rintro e w9 ⟨rfl, hb9⟩; have hb9' := hb8'.trans (hb9.mono hb8'.size); have hs9 := HIN.out w9 hb9') | fail)
    have HB9 := Lib.hid (HBm.out.trans ((HBW.out.trans (hb9'.mono HBW.out.size)).mono HBm.out.size))
    go_wp2
    go_ret
    exact ⟨rfl, HB9.out⟩
end Go.Proofs.YtnmbjalojgccmaaGreat
end
/-
  FnMerged, whatever the kinds, the greatest numbers of bins and the bins: the call returns true, and the arguments read as they did. No condition.
-/
section
namespace Go.Proofs.YtnmbjalojgccmaaGreat
open Go.ChangeShapes Go.WideShapes Go.ChangeAt Go.RowKit

theorem Tryz.own : ownKnob Tryz.prog.godebug = none := by kernel_rfl
theorem Tryz.laidOut : laidOutB Tryz.prog = true := by kernel_rfl

section
variable {H : Type} {enc : TypeId × Value → H} {P : Program} {w : World} {base : Nat} {spare : Nat → Bool} {held : Bool}
theorem trodAll_six {t0 t1 t2 t3 t4 t5 : TypeId} {args : Array Value} {ds : List (DataW H)} {ps : List MemPlace} (h : DataW.TrodAll enc P w base spare held [t0, t1, t2, t3, t4, t5] args.toList ds ps) :
    ∃ v0 v1 v2 v3 v4 v5 d0 d1 d2 d3 d4 d5 p0 p1 p2 p3 p4 p5, args = #[v0, v1, v2, v3, v4, v5] ∧ ds = [d0, d1, d2, d3, d4, d5] ∧ ps = p0 ++ (p1 ++ (p2 ++ (p3 ++ (p4 ++ p5)))) ∧
      DataW.Trod enc P w base spare held t0 v0 d0 p0 ∧ DataW.Trod enc P w base spare held t1 v1 d1 p1 ∧ DataW.Trod enc P w base spare held t2 v2 d2 p2 ∧ DataW.Trod enc P w base spare held t3 v3 d3 p3 ∧ DataW.Trod enc P w base spare held t4 v4 d4 p4 ∧ DataW.Trod enc P w base spare held t5 v5 d5 p5 := by
  obtain ⟨v0, vs0, d0, ds0, p0, q0, hargs, rfl, rfl, h0, r0⟩ := trodAll_cons h
  obtain ⟨v1, vs1, d1, ds1, p1, q1, rfl, rfl, rfl, h1, r1⟩ := trodAll_cons r0
  obtain ⟨v2, vs2, d2, ds2, p2, q2, rfl, rfl, rfl, h2, r2⟩ := trodAll_cons r1
  obtain ⟨v3, vs3, d3, ds3, p3, q3, rfl, rfl, rfl, h3, r3⟩ := trodAll_cons r2
  obtain ⟨v4, vs4, d4, ds4, p4, q4, rfl, rfl, rfl, h4, r4⟩ := trodAll_cons r3
  obtain ⟨v5, vs5, d5, ds5, p5, q5, rfl, rfl, rfl, h5, r5⟩ := trodAll_cons r4
  obtain ⟨rfl, rfl, rfl⟩ := trodAll_nil r5
  exact ⟨v0, v1, v2, v3, v4, v5, d0, d1, d2, d3, d4, d5, p0, p1, p2, p3, p4, p5, by cases args; simp_all, rfl, by simp, h0, h1, h2, h3, h4, h5⟩
end

set_option maxRecDepth 100000 in
theorem fnMerged_lifted (os : Os) (started : os.Started) (H : Type) (enc : TypeId × Value → H) :
    ReturnsInHanded {} Tryz.checked os 6 .any (Rows.fnMergedSpec.pre6 enc Tryz.prog Tryz.f6 Rows.fnMergedRow.domain false) (Rows.fnMergedSpec.post enc Tryz.prog Tryz.f6 false true false false) := by
  refine returnsInHanded_of_change (C := Tryz.checked) Tryz.own started (by kernel_rfl) Tryz.func6
    (ChangeSpec.witness6 (enc := enc) (C := Tryz.checked) false ⟨#[], #[.int .i64 0, .int .i64 0, .slice none 0 0, .int .i64 0, .int .i64 0, .slice none 0 0], []⟩ 8 (by kernel_rfl) (by kernel_rfl) (by kernel_rfl) (by kernel_rfl)) ?_
  intro W base args ds gs before hval0 hW hcnd _
  have hval : ∀ (j : Nat) t v, Tryz.f6.params[j]? = some t → args[j]? = some v → Value.okWide Tryz.prog W .any base t v := hval0
  have hW' := hW
  obtain ⟨p, q, hA0, hV, rfl, hfz, hnd⟩ := hW
  have hA : DataW.TrodAll enc Tryz.prog W 0 (fun _ => true) true Tryz.f6.params.toList args.toList ds p := hA0
  rw [Tryz.params6] at hA hval
  obtain ⟨v0, v1, v2, v3, v4, v5, d0, d1, d2, d3, d4, d5, p0, p1, p2, p3, p4, p5, rfl, rfl, rfl, h0, h1, h2, h3, h4, h5⟩ := trodAll_six hA
  obtain ⟨rfl, rfl⟩ := trodVars_none hV
  obtain ⟨a, rfl, rfl, rfl, wa⟩ := open_int Tryz.underlying3 (hval 0 3 v0 rfl rfl) h0
  obtain ⟨b, rfl, rfl, rfl, wb⟩ := open_int Tryz.underlying3 (hval 1 3 v1 rfl rfl) h1
  obtain ⟨c, rfl, rfl, rfl, wc⟩ := open_int Tryz.underlying3 (hval 3 3 v3 rfl rfl) h3
  obtain ⟨d, rfl, rfl, rfl, wd⟩ := open_int Tryz.underlying3 (hval 4 3 v4 rfl rfl) h4
  obtain ⟨ao, len, cap, rfl⟩ := okWide_slice Tryz.underlying22 (hval 2 22 v2 rfl rfl)
  obtain ⟨ap, len2, cap2, rfl⟩ := okWide_slice Tryz.underlying22 (hval 5 22 v5 rfl rfl)
  obtain ⟨ps, rfl, hl, hbits⟩ := open_bins Tryz.underlying22 Tryz.underlying62 (by kernel_rfl) rfl rfl (by kernel_rfl) (by kernel_rfl) Tryz.underlying3 Tryz.underlying30 h2
  obtain ⟨qs, rfl, hl2, hbits2⟩ := open_bins Tryz.underlying22 Tryz.underlying62 (by kernel_rfl) rfl rfl (by kernel_rfl) (by kernel_rfl) Tryz.underlying3 Tryz.underlying30 h5
  have hlt : ∀ x ∈ p2 ++ p5, x.block < W.heap.size := fun x hx => by
    refine hW'.lt x ?_
    simpa using hx
  clear hA0 hval0
  simp only [List.append_nil, List.nil_append] at hW'
  refine (fnMerged_any a b c d ao ap cap cap2 ps qs W hl hl2 hbits hbits2).mono fun e W' ⟨he, hg⟩ => ?_
  subst he
  have hargs : ∀ sp : Nat → Bool, (∀ p ∈ p2 ++ p5, sp p.block = true) → DataW.TrodAll enc Tryz.prog W' 0 sp true [3, 3, 22, 3, 3, 22] [.int .i64 a, .int .i64 b, .slice ao ps.length cap, .int .i64 c, .int .i64 d, .slice ap qs.length cap2] [.lit (.int .i64 a), .lit (.int .i64 b), d2, .lit (.int .i64 c), .lit (.int .i64 d), d5] (p2 ++ p5) := by
    intro sp hsp
    have e2 := WideElems.Trod_stays Tryz.laidOut (by kernel_rfl) (of_decide_eq_true (by kernel_rfl)) h2 (fun x hx => hg.same (hlt x (List.mem_append_left _ hx))) (fun x hx => hsp x (List.mem_append_left _ hx))
    have e5 := WideElems.Trod_stays Tryz.laidOut (by kernel_rfl) (of_decide_eq_true (by kernel_rfl)) h5 (fun x hx => hg.same (hlt x (List.mem_append_right _ hx))) (fun x hx => hsp x (List.mem_append_right _ hx))
    have h6 : DataW.TrodAll enc Tryz.prog W' 0 sp true [3, 3, 22, 3, 3, 22] [.int .i64 a, .int .i64 b, .slice ao ps.length cap, .int .i64 c, .int .i64 d, .slice ap qs.length cap2] [.lit (.int .i64 a), .lit (.int .i64 b), d2, .lit (.int .i64 c), .lit (.int .i64 d), d5] ([] ++ ([] ++ (p2 ++ ([] ++ ([] ++ p5))))) :=
      ⟨_, _, shut_int Tryz.underlying3 wa, ⟨_, _, shut_int Tryz.underlying3 wb, trodAll_mk4 e2 (shut_int Tryz.underlying3 wc) (shut_int Tryz.underlying3 wd) e5, rfl⟩, rfl⟩
    simpa using h6
  exact ⟨_, rfl, post_of_below (pa := p2 ++ p5) (pv := []) hW' (fun _ _ _ => trodAll_mk1 (shut_bool Tryz.underlying4 _)) (fun sp hsp => hargs sp hsp) (fun _ _ => rfl) (by simp) hg
    (ok_one (by kernel_rfl) rfl (okWide_bool_mk Tryz.underlying4 _))⟩

theorem fnMerged_holds : Rows.FnMergedSaid :=
  OpenClaim.holds_of_wide 6 Tryz.f6 rfl rfl rfl rfl rfl rfl rfl ⟨rfl, rfl, rfl, rfl, rfl⟩ rfl rfl rfl rfl rfl (by kernel_rfl) Tryz.func6 (by kernel_rfl)
    (of_decide_eq_true (by kernel_rfl)) (by unfold Func.isWrapper; first | (rw [if_pos (by decide +kernel)]; kernel_rfl) | (rw [if_neg (by decide +kernel)]; exact ⟨rfl, rfl⟩))
    (fun os started H enc _ => fnMerged_lifted os started H enc)
#print axioms fnMerged_holds
end Go.Proofs.YtnmbjalojgccmaaGreat
end
