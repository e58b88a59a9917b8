/-
  laws.FnWeighed: it is true, whatever the input.
-/
import Derived.Test.YtnmbjalojgccmaaGreatTH
import Derived.Test.YtnmbjalojgccmaaGreatTM
import Derived.Test.YtnmbjalojgccmaaGreatRows
import Derived.Test.YtnmbjalojgccmaaGreatTI
import Derived.ProofKit
import Derived.OpenShut
section
namespace Go.Proofs.YtnmbjalojgccmaaGreat
open Go.RowKit

theorem weigh_all {kind most : Int} (h : knownB kind most = true) : ∃ K : StoreKind kind, Nonempty (ToldKind K) ∧ Nonempty (WeighKind K) := by
  unfold knownB at h
  simp at h
  have : kind = 0 ∨ kind = 1 ∨ kind = 2 ∨ kind = 3 ∨ kind = 4 := by omega
  rcases this with rfl | rfl | rfl | rfl | rfl
  · exact ⟨kindD, ⟨toldD⟩, ⟨weighD⟩⟩
  · exact ⟨kindS, ⟨toldS⟩, ⟨weighS⟩⟩
  · exact ⟨kindP, ⟨toldP⟩, ⟨weighP⟩⟩
  · exact ⟨kindL, ⟨toldL⟩, ⟨weighL⟩⟩
  · exact ⟨kindH, ⟨toldH⟩, ⟨weighH⟩⟩

/-- The first j bins weighed. -/
def partW (k : Nat) (ks : Bins) (j : Nat) : Bins := mulB k (ks.take j) ++ ks.drop j
theorem partW_length (k : Nat) (ks : Bins) (j : Nat) : (partW k ks j).length = ks.length := by
  unfold partW; rw [List.length_append, mulB_length, List.length_take, List.length_drop]; omega
theorem partW_zero (k : Nat) (ks : Bins) : partW k ks 0 = ks := rfl
theorem partW_all (k : Nat) (ks : Bins) : partW k ks ks.length = mulB k ks := by
  unfold partW; rw [List.take_length, List.drop_length, List.append_nil]
theorem partW_get (k : Nat) (ks : Bins) (j : Nat) (h : j < ks.length) : (partW k ks j)[j]'(by rw [partW_length]; exact h) = ks[j] := by
  unfold partW
  rw [List.getElem_append_right (by rw [mulB_length, List.length_take]; omega)]
  rw [List.getElem_drop]
  congr 1
  rw [mulB_length, List.length_take]; omega
theorem partW_set (k : Nat) (ks : Bins) (j : Nat) (h : j < ks.length) : (partW k ks j).set j (ks[j].1, ks[j].2 * k) = partW k ks (j + 1) := by
  have hl : (mulB k (ks.take j)).length = j := by rw [mulB_length, List.length_take]; omega
  unfold partW
  rw [List.set_append_right _ _ (by rw [hl]; exact Nat.le_refl _), hl, Nat.sub_self, List.drop_eq_getElem_cons h, List.set_cons_zero, List.take_succ_eq_append_getElem h]
  unfold mulB
  rw [List.map_append, List.append_assoc]
  rfl
def WantRel (k : Nat) (ks : Bins) (ao : Option Addr) (cp : Nat) (w wr : World) (i : Value) : Prop :=
  ∃ j : Nat, j ≤ ks.length ∧ i = .int .i64 (j : Int) ∧ wr.ownsRow 0 44 2 (.slice ao ks.length cp) ks.length (pc (fb (partW k ks j))) ∧ Fr (fun b => (Value.slice ao ks.length cp).ownBlock = some b) w wr

set_option maxRecDepth 100000 in
set_option maxHeartbeats 1000000 in
theorem fnWeighed_any (kind most : Int) (v : Int) (ao : Option Addr) (cp : Nat) (ps : List (Int × Nat)) (w : World) (hl : Lie2 w ao ps) (hbits : ∀ p ∈ ps, p.2 < 18446744073709551616) :
    Calls Tryz.prog 5 #[.int .i64 kind, .int .i64 most, .slice ao ps.length cp, .int .i64 v] w fun e w' => IsTrue w e w' := by
  by_cases hz : 2147483647 < ps.length
  · have hz1 : (2147483647 : Int) < ps.length := by omega
    clear hl hbits hz
    go_enter Tryz.func5, Tryz.ntmps5
    go_wp2
    go_ret
    exact ⟨rfl, Below.refl _ _⟩
  have hz1 : (ps.length : Int) ≤ 2147483647 := by omega
  have hz3 : ps.length ≤ 2147483647 := by omega
  have HB := bins_any ao cp ps w hl hz3
  have HL := Lib.hid hl
  have HBI := Lib.hid hbits
  have HZ3 := Lib.hid hz3
  clear hl hbits hz hz3
  go_enter Tryz.func5, Tryz.ntmps5
  go_wp2_with fail
  refine HB.mono ?_
  clear HB
  rintro e w1 ⟨a1, c1, rfl, hown, hb1⟩
  have hlie1 := (lie2_of_owns hown.1).2.2.2
  have HK := known_any kind most w1
  have HP := proper_any a1 c1 ps w1 hlie1 HZ3.out
  have HL1 := Lib.hid hlie1
  have HB1 := Lib.hid hb1
  clear hown hb1 hlie1
  go_wp2_with fail
  refine HK.mono ?_
  clear HK
  rintro e w1' ⟨rfl, rfl⟩
  cases hk : knownB kind most
  · have HW := works_any w1
    clear hk HP
    go_wp2_with fail
    refine HW.mono ?_
    clear HW
    rintro e w2 ⟨rfl, hb2⟩
    have HB2 := Lib.hid (HB1.out.trans (hb2.mono HB1.out.size)); clear hb2
    go_wp2
    go_ret
    exact ⟨rfl, HB2.out⟩
  have HKN := Lib.hid hk
  clear hk
  go_wp2_with fail
  refine HP.mono ?_
  clear HP
  rintro e w2 ⟨rfl, hb2⟩
  have HB2 := Lib.hid (HB1.out.trans (hb2.mono HB1.out.size))
  cases hpr : properB ps
  · have HW := works_any w2
    clear hpr hb2
    go_wp2_with fail
    refine HW.mono ?_
    clear HW
    rintro e w3 ⟨rfl, hb3⟩
    have HB3 := Lib.hid (HB2.out.trans (hb3.mono HB2.out.size)); clear hb3
    go_wp2
    go_ret
    exact ⟨rfl, HB3.out⟩
  by_cases hv : v < 1 ∨ 100 < v
  · have HW := works_any w2
    clear hpr hb2
    by_cases hv1 : v < 1
    · clear hv
      go_wp2_with fail
      refine HW.mono ?_
      clear HW
      rintro e w3 ⟨rfl, hb3⟩
      have HB3 := Lib.hid (HB2.out.trans (hb3.mono HB2.out.size)); clear hb3
      go_wp2
      go_ret
      exact ⟨rfl, HB3.out⟩
    · have hv2 : 100 < v := by omega
      clear hv
      go_wp2_with fail
      refine HW.mono ?_
      clear HW
      rintro e w3 ⟨rfl, hb3⟩
      have HB3 := Lib.hid (HB2.out.trans (hb3.mono HB2.out.size)); clear hb3
      go_wp2
      go_ret
      exact ⟨rfl, HB3.out⟩
  have hv1 : 1 ≤ v := by omega
  have hv2 : v ≤ 100 := by omega
  obtain ⟨k, rfl⟩ : ∃ k : Nat, v = (k : Int) := ⟨v.toNat, by omega⟩
  have hk1 : 1 ≤ k := by omega
  have hk2 : k ≤ 100 := by omega
  clear hv
  obtain ⟨xs, hxs, hr, hp, ht, hn⟩ := proper_bins hpr HBI.out
  clear hpr
  have hpl : ps.length = xs.length := by rw [hxs, fb_length]
  have hkl := kept_len kind most xs
  have hkt := kept_tot kind most xs
  have hl2b : Lie2 w2 a1 (fb xs) := by rw [← hxs]; exact HL1.out.later hb2
  have HKP := kept_any a1 c1 kind most xs w2 hl2b hr HKN.out (by omega) (by omega)
  obtain ⟨ks, hks⟩ : ∃ ks, ks = keptB kind most xs := ⟨_, rfl⟩
  rw [← hks] at hkl hkt HKP
  rw [← hpl] at HKP
  have HPL := Lib.hid hpl
  have HXS := Lib.hid hxs
  have HKS := Lib.hid hks
  have HR := Lib.hid hr
  have HP2 := Lib.hid hp
  have HT := Lib.hid (show tot xs ≤ 60000 by omega)
  have HN := Lib.hid hn
  have HKL := Lib.hid (show ks.length ≤ 60 by omega)
  have HKT := Lib.hid hkt
  clear hks hxs hr hp ht hn hkl hkt hl2b hb2 HL1 hpl
  go_wp2_with fail
  refine HKP.mono ?_
  clear HKP
  rintro e w3 ⟨a3, c3, rfl, hown, hb3⟩
  have hlf : (fb ks).length = ks.length := fb_length ks
  rw [hlf] at hown ⊢
  have HOW := Lib.hid hown
  have HB3 := Lib.hid (HB2.out.trans (hb3.mono HB2.out.size))
  clear hown hb3 hlf
  have hcv : ∀ w, (convert 3 30 (.int .i64 (k : Int))).run Tryz.prog w = .ok (.float .f64 (nf k)) w := fun w => by
    rw [run_convert_int_float (P := Tryz.prog) w 3 30 .i64 .f64 (k : Int) (by simp [Tryz.underlying3]) Tryz.underlying30]; rfl
  obtain ⟨y, hy⟩ : ∃ y, y = nf k := ⟨_, rfl⟩
  rw [← hy] at hcv
  have HY := Lib.hid hy
  clear hy
  go_wp2
  go_loopw [43] (fun i wr => WantRel k ks a3 c3 w3 wr i) (fun i _ => ks.length - (intOf i).toNat)
  case atStart => exact ⟨0, Nat.zero_le _, rfl, HOW.out.1, Fr.refl _ _⟩
  case round =>
    obtain ⟨j, hj, rfl, hrow, hfr⟩ := hrel
    by_cases hlt : j < ks.length
    · obtain ⟨g, rfl⟩ : ∃ g, a3 = some ⟨g, 0, none⟩ := by
        rcases hrow.2 with ⟨h1, h2⟩ | ⟨g, cap, cur, h1, _⟩
        · omega
        · cases h1; exact ⟨g, rfl⟩
      have hpl2 : j < (fb (partW k ks j)).length := by rw [fb_length, partW_length]; exact hlt
      have hget : (fb (partW k ks j))[j]'hpl2 = (ks[j].1, nf ks[j].2) := by
        rw [fb_get]
        rw [partW_get k ks j hlt]
      have hcell : wr.cell? ⟨g, j * 2 + 1, none⟩ = some (.float .f64 (nf ks[j].2)) := by
        rw [World.ownsRow.cellAt hrow (j * 2 + 1) (by omega), pc_get1 _ j hpl2, hget]
      have hfree := World.ownsRow.frozenAt hrow (j * 2 + 1)
      have hkb : ks[j].2 ≤ 60000 := by
        have h1 := tot_succ ks j hlt
        have h2 := tot_take ks (j + 1)
        have := HKT.out
        have := HT.out
        omega
      have hkb2 : ks[j].2 * k ≤ 60000 * 100 := Nat.mul_le_mul hkb hk2
      have hmul := fun w : World => run_float_arith (P := Tryz.prog) w .mul 30 .f64 _ _ _ (nf_mulz ks[j].2 k (by omega) (by omega) (by omega))
      rw [← HY.out] at hmul
      have hst := (World.ownsRow.stored hrow (j * 2 + 1) (.float .f64 (nf (ks[j].2 * k)))).1
      have hnext : (pc (fb (partW k ks j))).set (j * 2 + 1) (.float .f64 (nf (ks[j].2 * k))) = pc (fb (partW k ks (j + 1))) := by
        rw [← pc_set _ ks[j].1 _ j hpl2 (by rw [hget]), ← partW_set k ks j hlt, fb_set]
      rw [hnext] at hst
      obtain ⟨u, hu⟩ : ∃ u, u = nf ks[j].2 := ⟨_, rfl⟩
      obtain ⟨v, hv⟩ : ∃ v, v = nf (ks[j].2 * k) := ⟨_, rfl⟩
      rw [← hu] at hcell hmul
      rw [← hv] at hmul hst
      have hltI : (j : Int) < (ks.length : Int) := by omega
      have i1 : IntKind.i64.wrap ((j : Int) + 1) = (j : Int) + 1 := by rw [IntKind.wrap_i64]; have := HKL.out; omega
      have HST := Lib.hid hst
      have HFR := Lib.hid hfr
      clear hrow hfr hst hnext hget hpl2 hkb hkb2 hu hv
      go_wp2
      go_roundw
      case rel => exact ⟨j + 1, by omega, by go_num, HST.out, HFR.out.setCell (p := ⟨g, j * 2 + 1, none⟩) (fun _ => rfl) _⟩
      case measure => simp [intOf]; omega
    · obtain rfl : j = ks.length := by omega
      rw [partW_all] at hrow
      have hkm := kept_mul k kind most xs
      rw [← HKS.out] at hkm
      have hbw : Below w.heap.size w wr := by
        have h1 : Below w.heap.size w3 wr := hfr.below (fun b hb => Nat.le_trans HB2.out.size (HOW.out.2 b hb)) HB3.out.size
        exact HB3.out.trans h1
      have hlie : Lie2 wr a3 (fb (mulB k ks)) := by
        rw [← mulB_length k ks, ← fb_length (mulB k ks)] at hrow
        exact (lie2_of_owns hrow).2.2.2
      have hl2 : Lie2 wr ao (fb xs) := by rw [← HXS.out]; exact HL.out.later hbw
      obtain ⟨K, ⟨D⟩, ⟨V⟩⟩ := weigh_all HKN.out
      have hfew : Few kind most xs := ⟨HKN.out, HR.out, HP2.out, by have := HT.out; omega, by have := HN.out; omega⟩
      have HWD := weighed_any D V most ao cp k xs wr hfew hl2 HN.out (by have := HT.out; omega) hk1 hk2
      rw [hkm, ← HPL.out, ← HY.out] at HWD
      have hkt2 : tot (mulB k ks) = tot (mulB k xs) := by rw [mulB_tot, mulB_tot, HKT.out]
      have hktb : tot (mulB k ks) < 9007199254740992 := by
        rw [mulB_tot, HKT.out]
        have := Nat.mul_le_mul HT.out hk2; omega
      have hnil : mulB k xs = [] → mulB k ks = [] := fun e => by
        have e2 := mulB_nil.1 e
        rw [HKS.out, e2, kept_nil]; rfl
      have HSL := fun ao2 c W h1 h2 => stateLaw_any ao2 a3 c c3 (mulB k xs) (mulB k ks) W hnil hkt2 (mulB_pos (by omega) HP2.out) h1 h2 (by rw [mulB_length]; have := HKL.out; omega) hktb
      rw [mulB_length] at HSL
      obtain ⟨ys, hys⟩ : ∃ ys, ys = mulB k xs := ⟨_, rfl⟩
      obtain ⟨ms, hms⟩ : ∃ ms, ms = mulB k ks := ⟨_, rfl⟩
      rw [← hys] at HWD HSL
      rw [← hms] at HWD HSL hlie
      have hml : ms.length = ks.length := by rw [hms, mulB_length]
      have HML := Lib.hid hml
      have HLIE := Lib.hid hlie
      have HBW := Lib.hid hbw
      have HSLL := Lib.hid HSL
      have HWK : Hid (∀ W, Calls Tryz.prog 13 #[] W fun e w' => IsTrue W e w') := fun W => works_any W
      clear hrow hfr hkm hbw hlie hl2 hfew hkt2 hktb hnil hys hms hlt hj HSL hml
      go_wp2_with (go_at_call 20; (with_reducible refine HWD.mono ?_); rintro e w4 ⟨a4, c4, rfl, h1, -, hb4⟩; have hlie4 : Lie2 w4 a4 (fb ms) := (by rw [← fb_length ms] at h1; exact (lie2_of_owns h1).2.2.2); have HL4 := Lib.hid hlie4; have HB4 := Lib.hid (HBW.out.trans (hb4.mono HBW.out.size)); have HLI4 := Lib.hid (HLIE.out.later hb4); clear h1 hb4 hlie4 HWD; unfold stateV)
      have bW : ∀ o, Below w4.heap.size w4 (w4.alloc o) := fun o => (Below.refl _ w4).alloc (Nat.le_refl _) o
      have HS5 := fun o => HSLL.out a4 c4 (w4.alloc o) (HL4.out.later (bW o)) (HLI4.out.later (bW o))
      unfold stateV at HS5
      refine (HS5 _).mono ?_
      clear HS5
      rintro e w5 ⟨rfl, hb5⟩
      have HB5 := Lib.hid (HB4.out.trans (((bW _).trans (hb5.mono (bW _).size)).mono HB4.out.size))
      clear hb5
      go_wp2_with fail
      refine (HWK.out _).mono ?_
      rintro e w6 ⟨rfl, hb6⟩
      have HB6 := Lib.hid (HB5.out.trans (hb6.mono HB5.out.size))
      clear hb6
      go_wp2
      go_ret
      exact ⟨rfl, HB6.out⟩
end Go.Proofs.YtnmbjalojgccmaaGreat
end
/-
  FnWeighed, whatever the kind, the greatest number of bins, the bins and the factor: the call returns true, and the arguments read as they did. No condition.
-/
section
namespace Go.Proofs.YtnmbjalojgccmaaGreat
open Go.ChangeShapes Go.WideShapes Go.ChangeAt Go.RowKit

theorem Tryz.own : ownKnob Tryz.prog.godebug = none := by kernel_rfl
theorem Tryz.laidOut : laidOutB Tryz.prog = true := by kernel_rfl

set_option maxRecDepth 100000 in
theorem fnWeighed_lifted (os : Os) (started : os.Started) (H : Type) (enc : TypeId × Value → H) :
    ReturnsInHanded {} Tryz.checked os 5 .any (Rows.fnWeighedSpec.pre6 enc Tryz.prog Tryz.f5 Rows.fnWeighedRow.domain false) (Rows.fnWeighedSpec.post enc Tryz.prog Tryz.f5 false true false false) := by
  refine returnsInHanded_of_change (C := Tryz.checked) Tryz.own started (by kernel_rfl) Tryz.func5
    (ChangeSpec.witness6 (enc := enc) (C := Tryz.checked) false ⟨#[], #[.int .i64 0, .int .i64 0, .slice none 0 0, .int .i64 0], []⟩ 8 (by kernel_rfl) (by kernel_rfl) (by kernel_rfl) (by kernel_rfl)) ?_
  intro W base args ds gs before hval0 hW hcnd _
  have hval : ∀ (j : Nat) t v, Tryz.f5.params[j]? = some t → args[j]? = some v → Value.okWide Tryz.prog W .any base t v := hval0
  have hW' := hW
  obtain ⟨p, q, hA0, hV, rfl, hfz, hnd⟩ := hW
  have hA : DataW.TrodAll enc Tryz.prog W 0 (fun _ => true) true Tryz.f5.params.toList args.toList ds p := hA0
  rw [Tryz.params5] at hA hval
  obtain ⟨v0, v1, v2, v3, d0, d1, d2, d3, p0, p1, p2, p3, rfl, rfl, rfl, h0, h1, h2, h3⟩ := trodAll_four hA
  obtain ⟨rfl, rfl⟩ := trodVars_none hV
  obtain ⟨a, rfl, rfl, rfl, wa⟩ := open_int Tryz.underlying3 (hval 0 3 v0 rfl rfl) h0
  obtain ⟨b, rfl, rfl, rfl, wb⟩ := open_int Tryz.underlying3 (hval 1 3 v1 rfl rfl) h1
  obtain ⟨c, rfl, rfl, rfl, wc⟩ := open_int Tryz.underlying3 (hval 3 3 v3 rfl rfl) h3
  obtain ⟨ao, len, cap, rfl⟩ := okWide_slice Tryz.underlying22 (hval 2 22 v2 rfl rfl)
  obtain ⟨ps, rfl, hl, hbits⟩ := open_bins Tryz.underlying22 Tryz.underlying62 (by kernel_rfl) rfl rfl (by kernel_rfl) (by kernel_rfl) Tryz.underlying3 Tryz.underlying30 h2
  have hlt : ∀ x ∈ p2, x.block < W.heap.size := fun x hx => by
    refine hW'.lt x ?_
    simpa using hx
  clear hA0 hval0
  simp only [List.append_nil, List.nil_append] at hW'
  refine (fnWeighed_any a b c ao cap ps W hl hbits).mono fun e W' ⟨he, hg⟩ => ?_
  subst he
  have hargs : ∀ sp : Nat → Bool, (∀ p ∈ p2, sp p.block = true) → DataW.TrodAll enc Tryz.prog W' 0 sp true [3, 3, 22, 3] [.int .i64 a, .int .i64 b, .slice ao ps.length cap, .int .i64 c] [.lit (.int .i64 a), .lit (.int .i64 b), d2, .lit (.int .i64 c)] p2 := by
    intro sp hsp
    have e2 := WideElems.Trod_stays Tryz.laidOut (by kernel_rfl) (of_decide_eq_true (by kernel_rfl)) h2 (fun x hx => hg.same (hlt x hx)) (fun x hx => hsp x hx)
    have h4 := trodAll_mk4 (shut_int Tryz.underlying3 wa) (shut_int Tryz.underlying3 wb) e2 (shut_int Tryz.underlying3 wc)
    simpa using h4
  exact ⟨_, rfl, post_of_below (pa := p2) (pv := []) hW' (fun _ _ _ => trodAll_mk1 (shut_bool Tryz.underlying4 _)) (fun sp hsp => hargs sp hsp) (fun _ _ => rfl) (by simp) hg
    (ok_one (by kernel_rfl) rfl (okWide_bool_mk Tryz.underlying4 _))⟩

theorem fnWeighed_holds : Rows.FnWeighedSaid :=
  OpenClaim.holds_of_wide 5 Tryz.f5 rfl rfl rfl rfl rfl rfl rfl ⟨rfl, rfl, rfl, rfl, rfl⟩ rfl rfl rfl rfl rfl (by kernel_rfl) Tryz.func5 (by kernel_rfl)
    (of_decide_eq_true (by kernel_rfl)) (by unfold Func.isWrapper; first | (rw [if_pos (by decide +kernel)]; kernel_rfl) | (rw [if_neg (by decide +kernel)]; exact ⟨rfl, rfl⟩))
    (fun os started H enc _ => fnWeighed_lifted os started H enc)
#print axioms fnWeighed_holds
end Go.Proofs.YtnmbjalojgccmaaGreat
end
