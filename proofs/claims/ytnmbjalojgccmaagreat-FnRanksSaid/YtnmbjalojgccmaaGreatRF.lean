/-
  laws.FnRanks: it is true, whatever the input.
-/
import Derived.Test.YtnmbjalojgccmaaGreatRD
import Derived.Test.YtnmbjalojgccmaaGreatQO
import Derived.Test.YtnmbjalojgccmaaGreatRE
import Derived.Test.YtnmbjalojgccmaaGreatRC
import Derived.Test.YtnmbjalojgccmaaGreatQT
import Derived.Test.YtnmbjalojgccmaaGreatQU
import Derived.Test.YtnmbjalojgccmaaGreatQYH
section
namespace Go.Proofs.YtnmbjalojgccmaaGreat
open Go.RowKit

def RankR1 (t : Nat) (rs : List Nat) (w wr : World) (i : Value) : Prop :=
  ∃ k : Nat, k ≤ rs.length ∧ i = .int .i64 (k : Int) ∧ Below w.heap.size w wr ∧ ∀ r ∈ rs.take k, RankOk t r

def RankR2 (n : Nat) (w wr : World) (i : Value) : Prop :=
  ∃ k : Nat, k ≤ n ∧ i = .int .i64 (k : Int) ∧ Below w.heap.size w wr

theorem LieF.later {w w' : World} {ar : Option Addr} {rs : List Nat} (h : LieF w ar rs) (hb : Below w.heap.size w w') : LieF w' ar rs := by
  rcases h with h | ⟨g, off, rfl, h⟩
  · exact .inl h
  · exact .inr ⟨g, off, rfl, fun i hi => (hb.cell (World.block_lt_of_cell? w _ (h i hi))).trans (h i hi)⟩

theorem kinds_all {kind most : Int} (h : knownB kind most = true) : Nonempty (StoreKind kind) := by
  unfold knownB at h
  simp at h
  have : kind = 0 ∨ kind = 1 ∨ kind = 2 ∨ kind = 3 ∨ kind = 4 := by omega
  rcases this with rfl | rfl | rfl | rfl | rfl
  · exact ⟨kindD⟩
  · exact ⟨kindS⟩
  · exact ⟨kindP⟩
  · exact ⟨kindL⟩
  · exact ⟨kindH⟩

theorem kept_len (kind most : Int) (xs : Bins) : (keptB kind most xs).length ≤ xs.length := by
  have h := summed_length xs
  unfold keptB lowB highB liftB dropB
  split
  · split
    · exact Nat.zero_le _
    · refine Nat.le_trans (summed_length _) ?_
      rw [List.length_map]; exact h
  · split
    · split
      · exact Nat.zero_le _
      · refine Nat.le_trans (summed_length _) ?_
        rw [List.length_map]; exact h
    · exact h

set_option maxRecDepth 100000 in
set_option maxHeartbeats 1000000 in
theorem fnRanks_any (kind most : Int) (ao : Option Addr) (cp : Nat) (ps : List (Int × Nat)) (ar : Option Addr) (cr : Nat) (rs : List Nat) (w : World) (hl : Lie2 w ao ps) (hrs : LieF w ar rs) (hbits : ∀ p ∈ ps, p.2 < 18446744073709551616) :
    Calls Tryz.prog 3 #[.int .i64 kind, .int .i64 most, .slice ao ps.length cp, .slice ar rs.length cr] w fun e w' => IsTrue w e w' := by
  by_cases hz : 2147483647 < ps.length ∨ 2147483647 < rs.length
  · have hz1 : (2147483647 : Int) < ps.length ∨ (2147483647 : Int) < rs.length := by omega
    clear hl hrs hbits hz
    go_enter Tryz.func3, Tryz.ntmps3
    rcases Int.lt_or_le 2147483647 (ps.length : Int) with h2 | h2
    · go_wp2
      go_ret
      exact ⟨rfl, Below.refl _ _⟩
    · have h3 : (2147483647 : Int) < rs.length := by omega
      go_wp2
      go_ret
      exact ⟨rfl, Below.refl _ _⟩
  have hz1 : (ps.length : Int) ≤ 2147483647 := by omega
  have hz2 : (rs.length : Int) ≤ 2147483647 := by omega
  have hz3 : ps.length ≤ 2147483647 := by omega
  have hz4 : rs.length ≤ 2147483647 := by omega
  have HB := bins_any ao cp ps w hl hz3
  have HL := Lib.hid hl
  have HRS := Lib.hid hrs
  have HBI := Lib.hid hbits
  have HZ3 := Lib.hid hz3
  have HZ4 := Lib.hid hz4
  clear hl hrs hbits hz hz3 hz4
  go_enter Tryz.func3, Tryz.ntmps3
  go_wp2_with fail
  refine HB.mono ?_
  clear HB
  rintro e w1 ⟨a1, c1, rfl, hown, hb1⟩
  have hlie1 := (lie2_of_owns hown.1).2.2.2
  have HK := known_any kind most w1
  have HP := proper_any a1 c1 ps w1 hlie1 HZ3.out
  have HL1 := Lib.hid hlie1
  have HB1 := Lib.hid hb1
  clear hown hb1 hlie1
  go_wp2_with fail
  refine HK.mono ?_
  clear HK
  rintro e w1' ⟨rfl, rfl⟩
  cases hk : knownB kind most
  · have HW := works_any w1
    clear hk HP
    go_wp2_with fail
    refine HW.mono ?_
    clear HW
    rintro e w2 ⟨rfl, hb2⟩
    have HB2 := Lib.hid (HB1.out.trans (hb2.mono HB1.out.size)); clear hb2
    go_wp2
    go_ret
    exact ⟨rfl, HB2.out⟩
  have HKN := Lib.hid hk
  clear hk
  have HWW := fun w => works_any w
  go_wp2_with fail
  refine HP.mono ?_
  clear HP
  rintro e w2 ⟨rfl, hb2⟩
  have HB2 := Lib.hid (HB1.out.trans (hb2.mono HB1.out.size))
  cases hpr : properB ps
  · have HW := works_any w2
    clear hpr HWW hb2
    go_wp2_with fail
    refine HW.mono ?_
    clear HW
    rintro e w3 ⟨rfl, hb3⟩
    have HB3 := Lib.hid (HB2.out.trans (hb3.mono HB2.out.size)); clear hb3
    go_wp2
    go_ret
    exact ⟨rfl, HB3.out⟩
  obtain ⟨xs, hxs, hr, hp, ht, hn⟩ := proper_bins hpr HBI.out
  clear hpr
  by_cases h0 : ps.length = 0 ∨ 20 < rs.length
  · have h0' : (ps.length : Int) = 0 ∨ (20 : Int) < rs.length := by omega
    have HW := works_any w2
    clear hxs hr hp ht hn h0 HWW hb2
    by_cases h1 : (ps.length : Int) = 0
    · obtain h1n : ps = [] := List.eq_nil_of_length_eq_zero (by omega)
      clear h0' h1
      go_wp2_with fail
      refine HW.mono ?_
      clear HW
      rintro e w3 ⟨rfl, hb3⟩
      have HB3 := Lib.hid (HB2.out.trans (hb3.mono HB2.out.size)); clear hb3
      go_wp2
      go_ret
      exact ⟨rfl, HB3.out⟩
    · have h2 : (20 : Int) < rs.length := by omega
      have h1n : ¬ ps = [] := fun e => h1 (by rw [e]; rfl)
      clear h0' h1
      go_wp2_with fail
      refine HW.mono ?_
      clear HW
      rintro e w3 ⟨rfl, hb3⟩
      have HB3 := Lib.hid (HB2.out.trans (hb3.mono HB2.out.size)); clear hb3
      go_wp2
      go_ret
      exact ⟨rfl, HB3.out⟩
  have h1 : ((ps.length : Int) == 0) = false := by simp only [beq_eq_false_iff_ne, ne_eq]; omega
  have h2 : (rs.length : Int) ≤ 20 := by omega
  have hpl : ps.length = xs.length := by rw [hxs, fb_length]
  have hb12 : Below w1.heap.size w1 w2 := hb2
  have hl2 : Lie2 w2 a1 (fb xs) := by rw [← hxs]; exact HL1.out.later hb12
  have hkl := kept_len kind most xs
  have hkt := kept_tot kind most xs
  have HKP := kept_any a1 c1 kind most xs w2 hl2 hr HKN.out (by omega) (by omega)
  obtain ⟨ks, hks⟩ : ∃ ks, ks = keptB kind most xs := ⟨_, rfl⟩
  have hkin : InR ks := by rw [hks]; exact kept_inR HKN.out hr
  rw [← hks] at hkl hkt HKP
  rw [← hpl] at HKP
  have HPL := Lib.hid hpl
  have HKS := Lib.hid hks
  have HXS := Lib.hid hxs
  have HR := Lib.hid hr
  have HPP := Lib.hid hp
  have HT := Lib.hid (show tot xs ≤ 60000 by omega)
  have HN := Lib.hid hn
  have HKL := Lib.hid (show ks.length ≤ 60 by omega)
  have HKT := Lib.hid hkt
  clear hks hxs hr hp ht hn hkl hkt hl2 hb12 hb2 hpl h0 HL1 hkin
  go_wp2_with fail
  refine HKP.mono ?_
  clear HKP
  rintro e w3 ⟨a3, c3, rfl, hown, hb3⟩
  have hlie3 := (lie2_of_owns hown.1).2.2.2
  have HL3 := Lib.hid hlie3
  have HB3 := Lib.hid (HB2.out.trans (hb3.mono HB2.out.size))
  clear hown hb3 hlie3
  go_wp2
  go_loopw [53] (fun i wr => RankR1 (tot xs) rs w3 wr i) (fun i _ => rs.length - (intOf i).toNat)
  case atStart => exact ⟨0, by omega, rfl, Below.refl _ _, by intro r hr; simp at hr⟩
  case round =>
    obtain ⟨k, hk, rfl, hb, HK⟩ := hrel
    have hbw : Below w.heap.size w wr := HB3.out.trans (hb.mono HB3.out.size)
    by_cases hlt : k < rs.length
    · rcases HRS.out.later hbw with e0 | ⟨g, off, rfl, hcell⟩
      · rw [e0] at hlt; exact absurd hlt (Nat.not_lt_zero _)
      have c0 := hcell k hlt
      have hnx : RankOk (tot xs) rs[k] → ∀ r ∈ rs.take (k + 1), RankOk (tot xs) r := by
        intro h r hr
        rw [List.take_succ_eq_append_getElem hlt] at hr
        rcases List.mem_append.1 hr with h5 | h5
        · exact HK r h5
        · simp at h5; rw [h5]; exact h
      obtain ⟨r, hr⟩ : ∃ r, r = rs[k] := ⟨_, rfl⟩
      rw [← hr] at c0 hnx
      have HNX := Lib.hid hnx
      have HBW := Lib.hid hbw
      have HBR := Lib.hid hb
      have hl4 := HL3.out.later hb
      have hlx : (fb ks).length = ks.length := fb_length ks
      clear hr hnx hbw hb hcell HK
      cases h3 : (FloatKind.f64.format.order r 0 == some .gt || FloatKind.f64.format.order r 0 == some .eq)
      · have HW := works_any wr
        clear hl4 hlx HWW
        go_wp2_with fail
        refine HW.mono ?_
        clear HW
        rintro e w5 ⟨rfl, hb5⟩
        have HB5 := Lib.hid (HBW.out.trans (hb5.mono HBW.out.size)); clear hb5
        go_wp2
        go_ret
        exact ⟨rfl, HB5.out⟩
      · have HTO := total_any a3 c3 ks wr hl4 (by have := HKL.out; omega) (by have := HT.out; have := HKT.out; omega)
        rw [← hlx, HKT.out] at HTO
        have H3 := Lib.hid h3
        clear hl4 hlx
        go_wp2_with fail
        refine HTO.mono ?_
        clear HTO
        rintro e w4 ⟨rfl, hb4⟩
        have HBW4 := Lib.hid (HBW.out.trans (hb4.mono HBW.out.size))
        have HB4 := Lib.hid (HBR.out.trans (hb4.mono HBR.out.size))
        clear hb4
        cases h4 : (FloatKind.f64.format.order r (nf (tot xs)) == some .lt)
        · have HW := works_any w4
          clear HWW
          go_wp2_with fail
          refine HW.mono ?_
          clear HW
          rintro e w5 ⟨rfl, hb5⟩
          have HB5 := Lib.hid (HBW4.out.trans (hb5.mono HBW4.out.size)); clear hb5
          go_wp2
          go_ret
          exact ⟨rfl, HB5.out⟩
        · have H4 := Lib.hid h4
          go_wp2
          go_roundw
          case rel =>
            refine ⟨k + 1, by omega, by go_num, HB4.out, HNX.out (rankOk_of ?_ (by simpa using H4.out))⟩
            have := H3.out
            simpa using this
          case measure => simp [intOf]; omega
    · obtain rfl : k = rs.length := by omega
      have hok : ∀ r ∈ rs, RankOk (tot xs) r := by rw [List.take_length] at HK; exact HK
      have hl5 : Lie2 wr ao (fb xs) := by rw [← HXS.out]; exact HL.out.later hbw
      have hf5 := HRS.out.later hbw
      obtain ⟨K⟩ := kinds_all HKN.out
      have HRK := ranks_any K most ao cp xs ar cr rs wr HKN.out hl5 HR.out HPP.out (by have := HT.out; omega) HN.out hf5 HZ4.out hok
      obtain ⟨gs, hgs⟩ : ∃ gs, gs = rs.map fun r => keyF r 0 (keptB kind most xs) := ⟨_, rfl⟩
      rw [← hgs, ← HPL.out] at HRK
      rw [← HKS.out] at hgs
      have hgl : gs.length = rs.length := by rw [hgs, List.length_map]
      have HGS := Lib.hid hgs
      have HOK := Lib.hid hok
      have HBW := Lib.hid hbw
      have HBR := Lib.hid hb
      clear hgs hok hl5 hf5 hbw hb HK hlt hk
      go_wp2_with fail
      refine HRK.mono ?_
      clear HRK
      rintro e w6 ⟨a6, c6, rfl, hown, hb6⟩
      have HB6 := Lib.hid (HBW.out.trans (hb6.mono HBW.out.size))
      have HL6 := Lib.hid (HL3.out.later (HBR.out.trans (hb6.mono HBR.out.size)))
      clear hb6
      have HOWN := Lib.hid hown
      clear hown
      rw [hgl]
      go_wp2
      go_loopw [87] (fun i wr => RankR2 rs.length w6 wr i) (fun i _ => rs.length - (intOf i).toNat)
      case atStart => exact ⟨0, by omega, rfl, Below.refl _ _⟩
      case round =>
        obtain ⟨k, hk, rfl, hb⟩ := hrel
        have hbw : Below w.heap.size w wr := HB6.out.trans (hb.mono HB6.out.size)
        by_cases hlt : k < rs.length
        · rcases HRS.out.later hbw with e0 | ⟨g, off, rfl, hcell⟩
          · rw [e0] at hlt; exact absurd hlt (Nat.not_lt_zero _)
          have c0 := hcell k hlt
          have ho := HOWN.out
          rw [show gs.length = rs.length from hgl] at ho
          have ho2 : w6.ownsRow 0 3 1 (.slice a6 gs.length c6) gs.length (gs.map (Value.int .i64)) := HOWN.out
          obtain ⟨hi1, hi2⟩ := lieI_of ho2
          have hkg : k < gs.length := by omega
          rcases hi1 with e0 | ⟨g6, rfl, hci⟩
          · rw [e0] at hkg; exact absurd hkg (Nat.not_lt_zero _)
          have hg6 := hi2 g6 rfl
          have d0 : wr.cell? ⟨g6, k, none⟩ = some (.int .i64 gs[k]) := (hb.cell (p := ⟨g6, k, none⟩) hg6).trans (hci k hkg)
          have hgk : gs[k] = keyF rs[k] 0 ks := by
            have hg := HGS.out
            subst hg
            simp
          rw [hgk] at d0
          have hok := HOK.out rs[k] (List.getElem_mem hlt)
          obtain ⟨r, hr⟩ : ∃ r, r = rs[k] := ⟨_, rfl⟩
          rw [← hr] at c0 d0 hok
          obtain ⟨z, hz⟩ : ∃ z, z = keyF r 0 ks := ⟨_, rfl⟩
          have hne : 0 < ks.length := by
            refine List.length_pos_iff.2 fun e => ?_
            have h9 := HKT.out
            obtain ⟨_, g1, g2⟩ := hok
            rw [← h9, e, show tot [] = 0 from rfl, g1] at g2; cases g2
          have hlx : (fb ks).length = ks.length := fb_length ks
          have hkx : ∀ w', Below wr.heap.size wr w' → Calls Tryz.prog 17 #[.slice a3 (fb ks).length c3, .float .f64 r] w' fun e w7 => e = .returned (.int .i64 z) ∧ (Below wr.heap.size wr w7 ∧ w7.cell? ⟨g6, k, none⟩ = some (.int .i64 z)) := by
            intro w' hb'
            have h8 := key_any a3 c3 r ks w' (HL6.out.later (hb.trans (hb'.mono hb.size))) hne (by have := HKL.out; omega) (by have := HT.out; have := HKT.out; omega)
            rw [← hlx, ← hz] at h8
            refine h8.mono fun e w7 h7 => ⟨h7.1, hb'.trans (h7.2.mono hb'.size), ?_⟩
            rw [hz]
            exact ((hb'.trans (h7.2.mono hb'.size)).cell (p := ⟨g6, k, none⟩) (by have := hb.size; show g6 < _; omega)).trans d0
          rw [← hz] at d0
          have HKX := Lib.hid hkx
          have hbr : Below wr.heap.size wr wr := Below.refl _ _
          have hbd : Below wr.heap.size wr wr.drew := hbr.drew
          have hs0 := And.intro hbr d0
          have hs1 : Below wr.heap.size wr wr.drew ∧ wr.drew.cell? ⟨g6, k, none⟩ = some (.int .i64 z) := ⟨hbd, d0⟩
          clear hbr d0
          have HBR2 := Lib.hid hb
          have HBW2 := Lib.hid hbw
          clear hr hz hkx hb hbw hcell hci hi2 hgk hok hne hlx ho ho2 hg6
          go_wp2_with fail
          go_region_held3 (fun w' => Below wr.heap.size wr w' ∧ w'.cell? ⟨g6, k, none⟩ = some (.int .i64 z))
            (first | (with_reducible exact hs0) | (with_reducible exact hs1) | (with_reducible exact hs7))
            (first | (go_at_call 17; refine (HKX.out _ hbd).mono ?_; rintro e w7 ⟨rfl, hs7⟩) | fail)
          have HB7 := Lib.hid hs7.1
          clear hbd hs0 hs1 hs7 HKX
          go_wp2
          go_roundw
          case rel => exact ⟨k + 1, by omega, by go_num, HBR2.out.trans (HB7.out.mono HBR2.out.size)⟩
          case measure => simp [intOf]; omega
        · obtain rfl : k = rs.length := by omega
          have HW := works_any wr
          have HBW2 := Lib.hid hbw
          clear HWW hb hbw hlt hk
          go_wp2_with fail
          refine HW.mono ?_
          clear HW
          rintro e w8 ⟨rfl, hb8⟩
          have HB8 := Lib.hid (HBW2.out.trans (hb8.mono HBW2.out.size)); clear hb8
          go_wp2
          go_ret
          exact ⟨rfl, HB8.out⟩
end Go.Proofs.YtnmbjalojgccmaaGreat
end
