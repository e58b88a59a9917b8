/-
  laws.state: a state is that of some bins.
-/
import Derived.Test.YtnmbjalojgccmaaGreatTG
import Derived.Test.YtnmbjalojgccmaaGreatRB
import Derived.Test.YtnmbjalojgccmaaGreatRD
import Derived.Deep.RegionHeld3
import Derived.Deep.QuietTactic
import Derived.BigQuiet
import Derived.Test.YtnmbjalojgccmaaGreatTB
import Derived.Test.YtnmbjalojgccmaaGreatTE
section
namespace Go.Proofs.YtnmbjalojgccmaaGreat
open Go.RowKit

/-- A box with a state. -/
def StateBox (W : World) (B : Nat) (ao : Option Addr) (c : Nat) (xs ks : Bins) : Prop := W.heap[B]? = some (.cells (stateV ao c xs ks) 38 (0, 0))

def StEqRel (n : Nat) (w wr : World) (i : Value) : Prop := ∃ k : Nat, k ≤ n ∧ i = .int .i64 (k : Int) ∧ Below w.heap.size w wr

set_option maxRecDepth 100000 in
set_option maxHeartbeats 800000 in
theorem stateLaw0_any (ao a2 : Option Addr) (c c2 : Nat) (w : World) :
    Calls Tryz.prog 19 #[.agg #[.slice ao 0 c, .float .f64 0, .bool true, .int .i64 0, .int .i64 0], .slice a2 0 c2] w fun e w' => IsTrue w e w' := by
  have htot := fun W => total_any a2 c2 [] W (.inl rfl) (by simp) (by decide)
  have h00 : (FloatKind.f64.format.order 0 0 != some .eq) = false := by decide +kernel
  have hz : nf (tot []) = 0 := nf_zero
  rw [hz] at htot
  obtain ⟨W, hW⟩ : ∃ W, W = w.alloc (.cells #[.slice ao 0 c, .float .f64 0, .bool true, .int .i64 0, .int .i64 0] 38) := ⟨_, rfl⟩
  have hb : Below w.heap.size w W := by rw [hW]; exact (Below.refl _ w).alloc (Nat.le_refl _) _
  have hcells : W.heap[w.heap.size]? = some (.cells #[.slice ao 0 c, .float .f64 0, .bool true, .int .i64 0, .int .i64 0] 38 (0, 0)) := by
    rw [hW]; exact heap_alloc_new w _
  have hS : ∀ W', Below W.heap.size W W' → W'.heap[w.heap.size]? = some (.cells #[.slice ao 0 c, .float .f64 0, .bool true, .int .i64 0, .int .i64 0] 38 (0, 0)) := fun W' h => (h.5 _ (lt_of_block hcells)).trans hcells
  have HB := Lib.hid hb
  have HS := Lib.hid hS
  obtain ⟨SS, hSS⟩ : ∃ SS : World → Prop, SS = fun W' => Below W.heap.size W W' ∧ (W'.cell? ⟨w.heap.size, 0, none⟩ = some (.slice ao 0 c) ∧ W'.cell? ⟨w.heap.size, 1, none⟩ = some (.float .f64 0) ∧ W'.cell? ⟨w.heap.size, 2, none⟩ = some (.bool true)) := ⟨_, rfl⟩
  have hin : ∀ W', Below W.heap.size W W' → (Below W.heap.size W W' ∧ (W'.cell? ⟨w.heap.size, 0, none⟩ = some (.slice ao 0 c) ∧ W'.cell? ⟨w.heap.size, 1, none⟩ = some (.float .f64 0) ∧ W'.cell? ⟨w.heap.size, 2, none⟩ = some (.bool true))) := fun W' h => by
    obtain ⟨z0, z1, z2, z3, z4⟩ := state_cells (hS W' h)
    exact ⟨h, z0, z1, z2⟩
  have hs0 := hin W (Below.refl _ W)
  have hs1 := hin W.drew (Below.refl _ W).drew
  have HIN := Lib.hid hin
  have hbd : Below W.heap.size W W.drew := (Below.refl _ W).drew
  clear hSS hin SS
  have HW := Lib.hid hW
  have HT := Lib.hid htot
  clear hb hS hW htot hcells hz
  go_enter Tryz.func19, Tryz.ntmps19
  go_wp2_with fail
  rw [← HW.out]
  go_region_held3 (fun W' => Below W.heap.size W W' ∧ (W'.cell? ⟨w.heap.size, 0, none⟩ = some (.slice ao 0 c) ∧ W'.cell? ⟨w.heap.size, 1, none⟩ = some (.float .f64 0) ∧ W'.cell? ⟨w.heap.size, 2, none⟩ = some (.bool true)))
    (first | (with_reducible exact hs0) | (with_reducible exact hs1) | (with_reducible exact hs7))
    (first | (go_at_call 15; refine (HT.out _).mono ?_; rintro e w7 ⟨rfl, hb7⟩; have hs7 := HIN.out w7 (hbd.trans (hb7.mono hbd.size))) | fail)
  have HB7 := Lib.hid (HB.out.trans (hs7.1.mono HB.out.size))
  clear hs0 hs1 hs7 hb7 hbd
  go_wp2
  go_loopw [30] (fun i wr => i = .int .i64 0 ∧ wr = w7) (fun _ _ => 0)
  case atStart => exact ⟨rfl, rfl⟩
  case round =>
    obtain ⟨rfl, rfl⟩ := hrel
    go_wp2
    go_quiet (fail)
    go_wp2
    go_ret
    exact ⟨rfl, HB7.out.1, HB7.out.2, HB7.out.3, HB7.out.4, HB7.out.5⟩

set_option maxRecDepth 100000 in
set_option maxHeartbeats 1600000 in
theorem stateLaw1_any (ao a2 : Option Addr) (c c2 : Nat) (ks : Bins) (w : World) (hne : ks ≠ []) (hl1 : Lie2 w ao (fb ks)) (hl2 : Lie2 w a2 (fb ks)) (hn : ks.length ≤ 2147483647) (ht : tot ks < 9007199254740992) :
    Calls Tryz.prog 19 #[.agg #[.slice ao ks.length c, .float .f64 (nf (tot ks)), .bool false, .int .i64 (firstI ks), .int .i64 (lastI ks)], .slice a2 ks.length c2] w fun e w' => IsTrue w e w' := by
  have htot := fun W h => total_any a2 c2 ks W h hn ht
  obtain ⟨T, hT⟩ : ∃ T, T = nf (tot ks) := ⟨_, rfl⟩
  have hTT : (FloatKind.f64.format.order T T != some .eq) = false := by
    rw [hT, nf_order _ _ ht ht]; simp
  rw [← hT] at htot ⊢
  have hlen : 0 < ks.length := List.length_pos_iff.2 hne
  have hfi := firstI_get ks hlen
  have hla := lastI_get ks (ks.length - 1) (by omega)
  obtain ⟨mn, hmn⟩ : ∃ mn, mn = firstI ks := ⟨_, rfl⟩
  obtain ⟨mx, hmx⟩ : ∃ mx, mx = lastI ks := ⟨_, rfl⟩
  rw [← hmn] at hfi ⊢
  rw [← hmx] at hla ⊢
  obtain ⟨W, hW⟩ : ∃ W, W = w.alloc (.cells #[.slice ao ks.length c, .float .f64 T, .bool false, .int .i64 mn, .int .i64 mx] 38) := ⟨_, rfl⟩
  have hb : Below w.heap.size w W := by rw [hW]; exact (Below.refl _ w).alloc (Nat.le_refl _) _
  have hcells : W.heap[w.heap.size]? = some (.cells #[.slice ao ks.length c, .float .f64 T, .bool false, .int .i64 mn, .int .i64 mx] 38 (0, 0)) := by
    rw [hW]; exact heap_alloc_new w _
  have hS : ∀ W', Below W.heap.size W W' → W'.heap[w.heap.size]? = some (.cells #[.slice ao ks.length c, .float .f64 T, .bool false, .int .i64 mn, .int .i64 mx] 38 (0, 0)) := fun W' h => (h.5 _ (lt_of_block hcells)).trans hcells
  have hin : ∀ W', Below W.heap.size W W' → (Below W.heap.size W W' ∧ (W'.cell? ⟨w.heap.size, 0, none⟩ = some (.slice ao ks.length c) ∧ W'.cell? ⟨w.heap.size, 1, none⟩ = some (.float .f64 T) ∧ W'.cell? ⟨w.heap.size, 2, none⟩ = some (.bool false))) := fun W' h => by
    obtain ⟨z0, z1, z2, z3, z4⟩ := state_cells (hS W' h)
    exact ⟨h, z0, z1, z2⟩
  have hs0 := hin W (Below.refl _ W)
  have hs1 := hin W.drew (Below.refl _ W).drew
  have HIN := Lib.hid hin
  have hbd : Below W.heap.size W W.drew := (Below.refl _ W).drew
  have HB := Lib.hid hb
  have HS := Lib.hid hS
  have HW := Lib.hid hW
  have HT := Lib.hid htot
  have HL1 := Lib.hid hl1
  have HL2 := Lib.hid hl2
  have HFI := Lib.hid hfi
  have HLA := Lib.hid hla
  have hln : ¬ (ks.length : Int) = 0 := by omega
  have hlq : ((ks.length : Int) == 0) = false := by simp only [beq_eq_false_iff_ne, ne_eq]; exact hln
  clear hb hS hW htot hcells hin hl1 hl2 hT hfi hla hmn hmx hne
  go_enter Tryz.func19, Tryz.ntmps19
  go_wp2_with fail
  rw [← HW.out]
  go_region_held3 (fun W' => Below W.heap.size W W' ∧ (W'.cell? ⟨w.heap.size, 0, none⟩ = some (.slice ao ks.length c) ∧ W'.cell? ⟨w.heap.size, 1, none⟩ = some (.float .f64 T) ∧ W'.cell? ⟨w.heap.size, 2, none⟩ = some (.bool false)))
    (first | (with_reducible exact hs0) | (with_reducible exact hs1) | (with_reducible exact hs7))
    (first | (go_at_call 15; refine (HT.out _ (HL2.out.later (HB.out.trans (hbd.mono HB.out.size)))).mono ?_; rintro e w7 ⟨rfl, hb7⟩; have hs7 := HIN.out w7 (hbd.trans (hb7.mono hbd.size))) | fail)
  have HB7 := Lib.hid hs7.1
  have H2N : Hid (∀ k, (h : k < ks.length) → ks[k].2 < 9007199254740992) := fun k h => by
    have h1 := tot_succ ks k h
    have h2 := tot_take ks (k + 1)
    omega
  clear hs0 hs1 hs7 hb7 hbd HT
  go_wp2
  go_loopw [30] (fun i wr => StEqRel ks.length w7 wr i) (fun i _ => ks.length - (intOf i).toNat)
  case atStart => exact ⟨0, Nat.zero_le _, rfl, Below.refl _ _⟩
  case round =>
    obtain ⟨k, hk, rfl, hb⟩ := hrel
    have hbW : Below W.heap.size W wr := HB7.out.trans (hb.mono HB7.out.size)
    have hbw : Below w.heap.size w wr := HB.out.trans (hbW.mono HB.out.size)
    have hstb := HS.out wr hbW
    rcases HL1.out.later hbw with e0 | ⟨g1, o1, rfl, hc1⟩
    · have := congrArg List.length e0; rw [fb_length, List.length_nil] at this; omega
    rcases HL2.out.later hbw with e0 | ⟨g2, o2, rfl, hc2⟩
    · have := congrArg List.length e0; rw [fb_length, List.length_nil] at this; omega
    by_cases hlt : k < ks.length
    · obtain ⟨p0, p1⟩ := hc1 k (by rw [fb_length]; exact hlt)
      obtain ⟨q0, q1⟩ := hc2 k (by rw [fb_length]; exact hlt)
      rw [fb_get] at p0 p1 q0 q1
      dsimp only at p0 p1 q0 q1
      have hbb : (FloatKind.f64.format.order (nf ks[k].2) (nf ks[k].2) != some .eq) = false := by
        rw [nf_order _ _ (H2N.out k hlt) (H2N.out k hlt)]; simp
      obtain ⟨x, hx⟩ : ∃ x, x = ks[k].1 := ⟨_, rfl⟩
      obtain ⟨b, hb2⟩ : ∃ b, b = nf ks[k].2 := ⟨_, rfl⟩
      rw [← hx] at p0 q0
      rw [← hb2] at p1 q1 hbb
      obtain ⟨w5, hw5⟩ : ∃ w5, w5 = wr.alloc (.cells #[.int .i64 x, .float .f64 b] 44) := ⟨_, rfl⟩
      have hb5 : Below wr.heap.size wr w5 := by rw [hw5]; exact (Below.refl _ wr).alloc (Nat.le_refl _) _
      have hn5 : w5.heap[wr.heap.size]? = some (.cells #[.int .i64 x, .float .f64 b] 44 (0, 0)) := by rw [hw5]; exact heap_alloc_new wr _
      have n0 := cell_of_row _ _ 0 _ _ _ hn5
      have n1 := cell_of_row _ _ 1 _ _ _ hn5
      have r0 := (hb5.cell (World.block_lt_of_cell? wr _ p0)).trans p0
      have r1 := (hb5.cell (World.block_lt_of_cell? wr _ p1)).trans p1
      have z0 := (hb5.cell (World.block_lt_of_cell? wr _ (state_cells hstb).1)).trans (state_cells hstb).1
      have HW5 := Lib.hid hw5
      have HB5 := Lib.hid (hb.trans (hb5.mono hb.size))
      have hltI : (k : Int) < (ks.length : Int) := by omega
      clear hx hb2 hw5 hb5 hn5 p0 p1 hc1 hc2 hstb hbw hbW hb hlt hk
      go_wp2_with fail
      rw [← HW5.out]
      go_quiet (fail)
      go_wp2
      go_roundw
      case rel => exact ⟨k + 1, by omega, by go_num, HB5.out.1, HB5.out.2, HB5.out.3, HB5.out.4, HB5.out.5⟩
      case measure => simp [intOf]; omega
    · obtain rfl : k = ks.length := by omega
      obtain ⟨q0, -⟩ := hc2 0 (by rw [fb_length]; omega)
      obtain ⟨u0, -⟩ := hc2 (ks.length - 1) (by rw [fb_length]; omega)
      rw [fb_get] at q0 u0
      dsimp only at q0 u0
      rw [← HFI.out] at q0
      rw [← HLA.out] at u0
      obtain ⟨z0, z1, z2, z3, z4⟩ := state_cells hstb
      have hls : (ks.length : Int) - 1 = ((ks.length - 1 : Nat) : Int) := by omega
      have i1 : IntKind.i64.wrap ((ks.length : Int) - 1) = ((ks.length - 1 : Nat) : Int) := by rw [IntKind.wrap_i64]; omega
      have hm1 : IntKind.i64.wrap ((ks.length : Int) - 1) = (ks.length : Int) - 1 := by rw [IntKind.wrap_i64]; omega
      rw [Nat.zero_mul, Nat.add_zero] at q0
      have HB9 := Lib.hid hbw
      have hltL : (ks.length : Int) - 1 < (ks.length : Int) := by omega
      have hltN : ks.length - 1 < ks.length := by omega
      clear hc1 hc2 hstb hbw hbW hb hlt hk i1 z0 z1 z2
      go_wp2
      go_quiet (fail)
      go_wp2
      go_ret
      exact ⟨rfl, HB9.out.1, HB9.out.2, HB9.out.3, HB9.out.4, HB9.out.5⟩
end Go.Proofs.YtnmbjalojgccmaaGreat
end
/-
  laws.FnStore: it is true, whatever the input.
-/
section
namespace Go.Proofs.YtnmbjalojgccmaaGreat
open Go.RowKit

theorem told_all {kind most : Int} (h : knownB kind most = true) : ∃ K : StoreKind kind, Nonempty (ToldKind K) := by
  unfold knownB at h
  simp at h
  have : kind = 0 ∨ kind = 1 ∨ kind = 2 ∨ kind = 3 ∨ kind = 4 := by omega
  rcases this with rfl | rfl | rfl | rfl | rfl
  · exact ⟨kindD, ⟨toldD⟩⟩
  · exact ⟨kindS, ⟨toldS⟩⟩
  · exact ⟨kindP, ⟨toldP⟩⟩
  · exact ⟨kindL, ⟨toldL⟩⟩
  · exact ⟨kindH, ⟨toldH⟩⟩

theorem stateLaw_any (ao a2 : Option Addr) (c c2 : Nat) (xs ks : Bins) (w : World) (hx : xs = [] → ks = []) (hk : tot ks = tot xs) (hp : Pos xs) (hl1 : Lie2 w ao (fb ks)) (hl2 : Lie2 w a2 (fb ks)) (hn : ks.length ≤ 2147483647) (ht : tot ks < 9007199254740992) :
    Calls Tryz.prog 19 #[.agg (stateV ao c xs ks), .slice a2 ks.length c2] w fun e w' => IsTrue w e w' := by
  by_cases h : xs = []
  · obtain rfl := hx h
    subst h
    have h0 := stateLaw0_any ao a2 c c2 w
    rw [← nf_zero] at h0
    exact h0
  · have hne : ks ≠ [] := fun e => by
      subst e
      have := tot_pos hp h
      rw [show tot [] = 0 from rfl] at hk; omega
    have h1 := stateLaw1_any ao a2 c c2 ks w hne hl1 hl2 hn ht
    have e1 : stateV ao c xs ks = #[.slice ao ks.length c, .float .f64 (nf (tot ks)), .bool false, .int .i64 (firstI ks), .int .i64 (lastI ks)] := by
      unfold stateV lowE topE
      rw [if_neg h, if_neg h, hk]
      cases xs with
      | nil => exact absurd rfl h
      | cons => rfl
    rw [e1]; exact h1

set_option maxRecDepth 100000 in
set_option maxHeartbeats 1000000 in
theorem fnStore_any (kind most : Int) (ao : Option Addr) (cp : Nat) (ps : List (Int × Nat)) (w : World) (hl : Lie2 w ao ps) (hbits : ∀ p ∈ ps, p.2 < 18446744073709551616) :
    Calls Tryz.prog 4 #[.int .i64 kind, .int .i64 most, .slice ao ps.length cp] w fun e w' => IsTrue w e w' := by
  by_cases hz : 2147483647 < ps.length
  · have hz1 : (2147483647 : Int) < ps.length := by omega
    clear hl hbits hz
    go_enter Tryz.func4, Tryz.ntmps4
    go_wp2
    go_ret
    exact ⟨rfl, Below.refl _ _⟩
  have hz1 : (ps.length : Int) ≤ 2147483647 := by omega
  have hz3 : ps.length ≤ 2147483647 := by omega
  have HB := bins_any ao cp ps w hl hz3
  have HL := Lib.hid hl
  have HBI := Lib.hid hbits
  have HZ3 := Lib.hid hz3
  clear hl hbits hz hz3
  go_enter Tryz.func4, Tryz.ntmps4
  go_wp2_with fail
  refine HB.mono ?_
  clear HB
  rintro e w1 ⟨a1, c1, rfl, hown, hb1⟩
  have hlie1 := (lie2_of_owns hown.1).2.2.2
  have HK := known_any kind most w1
  have HP := proper_any a1 c1 ps w1 hlie1 HZ3.out
  have HL1 := Lib.hid hlie1
  have HB1 := Lib.hid hb1
  clear hown hb1 hlie1
  go_wp2_with fail
  refine HK.mono ?_
  clear HK
  rintro e w1' ⟨rfl, rfl⟩
  cases hk : knownB kind most
  · have HW := works_any w1
    clear hk HP
    go_wp2_with fail
    refine HW.mono ?_
    clear HW
    rintro e w2 ⟨rfl, hb2⟩
    have HB2 := Lib.hid (HB1.out.trans (hb2.mono HB1.out.size)); clear hb2
    go_wp2
    go_ret
    exact ⟨rfl, HB2.out⟩
  have HKN := Lib.hid hk
  clear hk
  go_wp2_with fail
  refine HP.mono ?_
  clear HP
  rintro e w2 ⟨rfl, hb2⟩
  have HB2 := Lib.hid (HB1.out.trans (hb2.mono HB1.out.size))
  cases hpr : properB ps
  · have HW := works_any w2
    clear hpr hb2
    go_wp2_with fail
    refine HW.mono ?_
    clear HW
    rintro e w3 ⟨rfl, hb3⟩
    have HB3 := Lib.hid (HB2.out.trans (hb3.mono HB2.out.size)); clear hb3
    go_wp2
    go_ret
    exact ⟨rfl, HB3.out⟩
  obtain ⟨xs, hxs, hr, hp, ht, hn⟩ := proper_bins hpr HBI.out
  clear hpr
  have hpl : ps.length = xs.length := by rw [hxs, fb_length]
  have hkl := kept_len kind most xs
  have hkt := kept_tot kind most xs
  have hl2 : Lie2 w2 ao (fb xs) := by rw [← hxs]; exact HL.out.later HB2.out
  have hl2b : Lie2 w2 a1 (fb xs) := by rw [← hxs]; exact HL1.out.later hb2
  obtain ⟨K, ⟨D⟩⟩ := told_all HKN.out
  have hfew : Few kind most xs := ⟨HKN.out, hr, hp, by omega, by omega⟩
  have HST := store_any D most ao cp xs w2 hfew hl2 hn
  have HKP := fun W h => kept_any a1 c1 kind most xs W (hl2b.later h) hr HKN.out (by omega) (by omega)
  obtain ⟨ks, hks⟩ : ∃ ks, ks = keptB kind most xs := ⟨_, rfl⟩
  have hnil : xs = [] → ks = [] := fun e => by rw [hks, e]; exact kept_nil kind most
  rw [← hks] at hkl hkt HKP HST
  rw [← hpl] at HKP HST
  have HSL := fun ao2 a3 c c3 W h1 h2 => stateLaw_any ao2 a3 c c3 xs ks W hnil hkt hp h1 h2 (by omega) (by omega)
  have HPL := Lib.hid hpl
  have HKPP := Lib.hid HKP
  have HSLL := Lib.hid HSL
  clear hks hxs hr hp ht hn hkl hkt hl2 hl2b hfew hb2 HL HL1 hnil HKP HSL hpl
  go_wp2_with fail
  refine HST.mono ?_
  clear HST
  rintro e w3 ⟨a3, c3, rfl, h1, -, hb3⟩
  have hlie3 : Lie2 w3 a3 (fb ks) := by rw [← fb_length ks] at h1; exact (lie2_of_owns h1).2.2.2
  have HL3 := Lib.hid hlie3
  have HB3 := Lib.hid (HB2.out.trans (hb3.mono HB2.out.size))
  have HB23 := Lib.hid hb3
  clear h1 hb3 hlie3
  obtain ⟨W, hW⟩ : ∃ W, W = w3.alloc (.cells (stateV a3 c3 xs ks) 38) := ⟨_, rfl⟩
  have hbW : Below w3.heap.size w3 W := by rw [hW]; exact (Below.refl _ w3).alloc (Nat.le_refl _) _
  have hcW : W.heap[w3.heap.size]? = some (.cells (stateV a3 c3 xs ks) 38 (0, 0)) := by rw [hW]; exact heap_alloc_new w3 _
  unfold stateV at hW hcW ⊢
  have hS : ∀ W', Below W.heap.size W W' → W'.heap[w3.heap.size]? = _ := fun W' h => (h.5 _ (lt_of_block hcW)).trans hcW
  have hin : ∀ W', Below W.heap.size W W' → (Below W.heap.size W W' ∧ (W'.cell? ⟨w3.heap.size, 0, none⟩ = some (.slice a3 ks.length c3) ∧ W'.cell? ⟨w3.heap.size, 1, none⟩ = some (.float .f64 (nf (tot xs))) ∧ W'.cell? ⟨w3.heap.size, 2, none⟩ = some (.bool xs.isEmpty) ∧ W'.cell? ⟨w3.heap.size, 3, none⟩ = some (.int .i64 (lowE xs ks)) ∧ W'.cell? ⟨w3.heap.size, 4, none⟩ = some (.int .i64 (topE xs ks)))) := fun W' h => by
    obtain ⟨z0, z1, z2, z3, z4⟩ := state_cells (hS W' h)
    exact ⟨h, z0, z1, z2, z3, z4⟩
  have hs0 := hin W (Below.refl _ W)
  have hs1 := hin W.drew (Below.refl _ W).drew
  have hbd : Below W.heap.size W W.drew := (Below.refl _ W).drew
  have HIN := Lib.hid hin
  have HBW := Lib.hid hbW
  have HW := Lib.hid hW
  clear hW hbW hcW hS hin
  go_wp2_with fail
  rw [← HW.out]
  have hkp2 : ∀ W', Below W.heap.size W W' → Calls Tryz.prog 14 #[.int .i64 kind, .int .i64 most, .slice a1 ps.length c1] W' fun e w' => GivesP 44 (fb ks) W' e w' := fun W' h =>
    HKPP.out W' (HB23.out.trans ((HBW.out.trans (h.mono HBW.out.size)).mono HB23.out.size))
  have hsl2 : ∀ a c W', Below W.heap.size W W' → Lie2 W' a (fb ks) → Calls Tryz.prog 19 #[.agg #[.slice a3 ks.length c3, .float .f64 (nf (tot xs)), .bool xs.isEmpty, .int .i64 (lowE xs ks), .int .i64 (topE xs ks)], .slice a ks.length c] W' fun e w' => IsTrue W' e w' := fun a c W' h h2 =>
    HSLL.out a3 a c3 c W' (HL3.out.later (HBW.out.trans (h.mono HBW.out.size))) h2
  have HKP2 := Lib.hid hkp2
  have HSL2 := Lib.hid hsl2
  have HWK : Hid (∀ W, Calls Tryz.prog 13 #[] W fun e w' => IsTrue W e w') := fun W => works_any W
  clear hkp2 hsl2
  go_region_held3 (fun W' => Below W.heap.size W W' ∧ (W'.cell? ⟨w3.heap.size, 0, none⟩ = some (.slice a3 ks.length c3) ∧ W'.cell? ⟨w3.heap.size, 1, none⟩ = some (.float .f64 (nf (tot xs))) ∧ W'.cell? ⟨w3.heap.size, 2, none⟩ = some (.bool xs.isEmpty) ∧ W'.cell? ⟨w3.heap.size, 3, none⟩ = some (.int .i64 (lowE xs ks)) ∧ W'.cell? ⟨w3.heap.size, 4, none⟩ = some (.int .i64 (topE xs ks))))
    (first | (with_reducible exact hs0) | (with_reducible exact hs1) | (with_reducible exact hs7) | (with_reducible exact hs8) | (with_reducible exact hs9))
    (first | (go_at_call 14; refine (HKP2.out _ hbd).mono ?_; rintro e w7 ⟨a7, c7, rfl, hown7, hb7⟩; have hb7' := hbd.trans (hb7.mono hbd.size); have hlie7 := (lie2_of_owns hown7.1).2.2.2; have hs7 := HIN.out w7 hb7'; have HL7 := Lib.hid hlie7; clear hown7 hb7 hlie7; rw [fb_length]) | (go_at_call 19; refine (HSL2.out _ _ _ hb7' HL7.out).mono ?_; rintro e w8 ⟨rfl, hb8⟩; have hb8' := hb7'.trans (hb8.mono hb7'.size); have hs8 := HIN.out w8 hb8') | (go_at_call 13; refine (HWK.out _).mono ?_; rintro e w9 ⟨rfl, hb9⟩; have hb9' := hb8'.trans (hb9.mono hb8'.size); have hs9 := HIN.out w9 hb9') | fail)
  have HB9 := Lib.hid (HB3.out.trans ((HBW.out.trans (hb9'.mono HBW.out.size)).mono HB3.out.size))
  go_wp2
  go_ret
  exact ⟨rfl, HB9.out⟩
end Go.Proofs.YtnmbjalojgccmaaGreat
end
