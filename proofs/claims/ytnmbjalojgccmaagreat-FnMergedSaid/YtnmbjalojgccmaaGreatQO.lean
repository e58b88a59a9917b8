/-
  spec.Lowest, spec.Highest, spec.Kept walked. (Printed by gen_kept.py.)
-/
import Derived.Test.YtnmbjalojgccmaaGreatQN
section
namespace Go.Proofs.YtnmbjalojgccmaaGreat
open Go.RowKit

/-- The indexes lie within ten thousand. -/
def InR (xs : Bins) : Prop := ∀ p ∈ xs, -10000 ≤ p.1 ∧ p.1 ≤ 10000

theorem summed_mem {xs : Bins} {q : Int × Nat} : q ∈ summed xs → ∃ p ∈ xs, p.1 = q.1 := by
  have : ∀ (xs l : Bins) (q : Int × Nat), q ∈ xs.foldl (fun l p => insB p.1 p.2 l) l → (∃ p ∈ xs, p.1 = q.1) ∨ ∃ p ∈ l, p.1 = q.1 := by
    intro xs
    induction xs with
    | nil => intro l q h; exact .inr ⟨q, h, rfl⟩
    | cons p t ih =>
      intro l q h
      rcases ih _ q h with ⟨r, hr, e⟩ | ⟨r, hr, e⟩
      · exact .inl ⟨r, List.mem_cons_of_mem _ hr, e⟩
      · rcases insB_mem hr with h | h
        · exact .inl ⟨p, List.mem_cons_self, by rw [← e, h]⟩
        · exact .inr ⟨r, h, e⟩
  intro h
  rcases this xs [] q h with h | ⟨p, hp, _⟩
  · exact h
  · cases hp

theorem InR.summed {xs : Bins} (h : InR xs) : InR (summed xs) := by
  intro q hq
  obtain ⟨p, hp, e⟩ := summed_mem hq
  rw [← e]; exact h p hp

def lastI (xs : Bins) : Int := match xs.getLast? with | some p => p.1 | none => 0
def firstI (xs : Bins) : Int := match xs.head? with | some p => p.1 | none => 0
def liftB (least : Int) (xs : Bins) : Bins := xs.map fun p => (max p.1 least, p.2)
def dropB (greatest : Int) (xs : Bins) : Bins := xs.map fun p => (min p.1 greatest, p.2)
/-- Bins of which the lowest (highest) are put together; what a store of a kind keeps. -/
def lowB (most : Int) (xs : Bins) : Bins := if xs = [] then [] else summed (liftB (lastI xs - most + 1) xs)
def highB (most : Int) (xs : Bins) : Bins := if xs = [] then [] else summed (dropB (firstI xs + most - 1) xs)
def keptB (kind most : Int) (xs : Bins) : Bins := if kind = 3 then lowB most (summed xs) else if kind = 4 then highB most (summed xs) else summed xs

theorem lift_tot (m : Int) (xs : Bins) : tot (liftB m xs) = tot xs := by
  induction xs with
  | nil => rfl
  | cons p t ih => simp only [liftB, List.map_cons, tot] at *; omega
theorem drop_tot (m : Int) (xs : Bins) : tot (dropB m xs) = tot xs := by
  induction xs with
  | nil => rfl
  | cons p t ih => simp only [dropB, List.map_cons, tot] at *; omega
theorem lastI_get (xs : Bins) (m : Nat) (h : xs.length = m + 1) : lastI xs = (xs[m]'(by omega)).1 := by
  unfold lastI
  rw [List.getLast?_eq_getElem?, show xs.length - 1 = m from by omega, List.getElem?_eq_getElem (by omega)]
theorem firstI_get (xs : Bins) (h : 0 < xs.length) : firstI xs = (xs[0]'h).1 := by
  unfold firstI
  rw [List.head?_eq_getElem?, List.getElem?_eq_getElem h]

def MovRel (f : Int → Int) (xs : Bins) (w wr : World) (v i : Value) : Prop :=
  ∃ k ao c, k ≤ xs.length ∧ i = .int .i64 (k : Int) ∧ v = .slice ao k c ∧ Own2 44 w wr (.slice ao k c) (fb ((xs.take k).map fun p => (f p.1, p.2)))

set_option maxRecDepth 100000 in
theorem lowNil_any (ao : Option Addr) (cp : Nat) (most : Int) (w : World) : Calls Tryz.prog 31 #[.slice ao 0 cp, .int .i64 most] w fun e w' => GivesP 44 (fb (lowB most [])) w e w' := by
  go_enter Tryz.func31, Tryz.ntmps31
  go_wp2
  go_ret
  exact ⟨none, 0, rfl, Own2.nil _ _⟩

set_option maxRecDepth 100000 in
set_option maxHeartbeats 800000 in
theorem low_any (ao : Option Addr) (cp : Nat) (most : Int) (xs : Bins) (w : World) (hl : Lie2 w ao (fb xs)) (hr : InR xs) (h1 : 1 ≤ most) (h2 : most ≤ 500) (hn : xs.length ≤ 2147483647) (ht : tot xs < 9007199254740992) :
    Calls Tryz.prog 31 #[.slice ao xs.length cp, .int .i64 most] w fun e w' => GivesP 44 (fb (lowB most xs)) w e w' := by
  by_cases h0 : xs = []
  · subst h0; exact lowNil_any ao cp most w
  have hpos : 0 < xs.length := List.length_pos_iff.2 h0
  obtain ⟨m, hm⟩ : ∃ m, xs.length = m + 1 := ⟨xs.length - 1, by omega⟩
  have hm31 : m < 2147483647 := by omega
  have hF : lowB most xs = summed (liftB (lastI xs - most + 1) xs) := by unfold lowB; rw [if_neg h0]
  have hb := hr (xs[m]'(by omega)) (List.getElem_mem _)
  rw [hF, lastI_get xs m hm]
  have hcell : ∃ g off, ao = some ⟨g, off, none⟩ ∧ w.cell? ⟨g, off + m * 2, none⟩ = some (.int .i64 (xs[m]'(by omega)).1) := by
    rcases id hl with h | ⟨g, off, h, hc⟩
    · have := congrArg List.length h; rw [fb_length, List.length_nil] at this; omega
    · refine ⟨g, off, h, ?_⟩
      have := (hc m (by rw [fb_length]; omega)).1
      rw [fb_get] at this
      simpa using this
  obtain ⟨gq, oq, hao, hc0⟩ := hcell
  generalize (xs[m]'(by omega)).1 = z at hb hc0 ⊢
  have HL := Lib.hid hl
  have HT := Lib.hid ht
  have HR := Lib.hid hr
  have HM := Lib.hid hm
  have HA := Lib.hid hao
  obtain ⟨hz1, hz2⟩ := hb
  clear hF hl ht hr h0
  subst hao
  go_enter Tryz.func31, Tryz.ntmps31
  rw [hm]
  clear hm hpos hn
  have hm0 : 0 < m + 1 := by omega
  have hm00 : (0 : Int) < (m : Int) + 1 := by omega
  go_wp2
  clear hm0 hm00
  clear hc0
  go_loopw [6, 24] (fun v i wr => MovRel (fun a => max a (z - most + 1)) xs w wr v i) (fun _ i _ => xs.length - (intOf i).toNat)
  case atStart => exact ⟨0, none, 0, by omega, rfl, rfl, by rw [List.take_zero]; exact Own2.nil _ _⟩
  case round =>
    obtain ⟨k, ar, cr, hk, rfl, rfl, hown⟩ := hrel
    by_cases hlt : k < xs.length
    · have hbw := hown.2
      rcases HL.out.later hbw with h0 | ⟨g, off, he, hcell⟩
      · have := congrArg List.length h0; rw [fb_length, List.length_nil] at this; omega
      cases he
      obtain ⟨c0, c1⟩ := hcell k (by rw [fb_length]; exact hlt)
      rw [fb_get] at c0 c1
      dsimp only at c0 c1
      have hkm : k < m + 1 := by have := HM.out; omega
      have hlt' : (k : Int) < (m : Int) + 1 := by omega
      have hxr := HR.out xs[k] (List.getElem_mem hlt)
      obtain ⟨hx1, hx2⟩ := hxr
      have hst : (xs.take (k + 1)).map (fun p => ((fun a => max a (z - most + 1)) p.1, p.2)) = ((xs.take k).map fun p => ((fun a => max a (z - most + 1)) p.1, p.2)) ++ [(max xs[k].1 (z - most + 1), xs[k].2)] := by
        rw [List.take_succ_eq_append_getElem hlt, List.map_append]; rfl
      have HST := Lib.hid hst
      obtain ⟨x, hx⟩ : ∃ x, x = xs[k].1 := ⟨_, rfl⟩
      obtain ⟨b, hbb⟩ : ∃ b, b = nf xs[k].2 := ⟨_, rfl⟩
      rw [← hx] at c0 hx1 hx2
      rw [← hbb] at c1
      have HX := Lib.hid hx
      have HB := Lib.hid hbb
      have hz := hown.2.size
      have HO := Lib.hid hown
      have ho1 := hown.1.1
      have hkl : (fb ((xs.take k).map fun p => ((fun a => max a (z - most + 1)) p.1, p.2))).length = k := by rw [fb_length, List.length_map, List.length_take]; omega
      rw [hkl] at ho1
      clear hx hbb hown hcell hbw hkl hst
      by_cases hcase : x < z - most + 1
      · go_wp2_with (at_builtin; refine wpList_append_pair (wr.alloc (.cells #[.int .i64 x, .float .f64 b] 44)) (wr.heap.size + 1) (by simp) (z - most + 1) b rfl _ _ 24 44 rfl (.agg #[.int .i64 0, .float .f64 0]) 16 Tryz.underlying24 Tryz.infoSB rfl (.slice ar k cr) k (fb ((xs.take k).map fun p => ((fun a => max a (z - most + 1)) p.1, p.2))) rfl (ho1.alloc _) rfl (by omega) (by decide) ?_; intro ao1 cp1 w1 hown' hgrow hblk)
        have hst := HO.out.step2 (o1 := .cells #[.int .i64 x, .float .f64 b] 44) (o2 := .cells #[.int .i64 (z - most + 1), .float .f64 b] 44) (by rw [show (fb ((xs.take k).map fun p => ((fun a => max a (z - most + 1)) p.1, p.2))).length = k from by rw [fb_length, List.length_map, List.length_take]; omega]; exact hown') hgrow hblk
        have HS := Lib.hid hst
        clear hst hown' hgrow hblk ho1 c0 c1
        go_wp2
        go_roundw
        case rel =>
          refine ⟨k + 1, ao1, cp1, by omega, by go_num, rfl, ?_⟩
          have hh := HS.out
          rw [HST.out, fb_append]
          rw [HB.out] at hh
          try rw [HX.out] at hh
          have e : max xs[k].1 (z - most + 1) = z - most + 1 := by have := HX.out; omega
          rw [e]
          exact hh
        case measure => simp [intOf]; omega
      · go_wp2_with (at_builtin; refine wpList_append_pair (wr.alloc (.cells #[.int .i64 x, .float .f64 b] 44)) (wr.heap.size + 1) (by simp) (x) b rfl _ _ 24 44 rfl (.agg #[.int .i64 0, .float .f64 0]) 16 Tryz.underlying24 Tryz.infoSB rfl (.slice ar k cr) k (fb ((xs.take k).map fun p => ((fun a => max a (z - most + 1)) p.1, p.2))) rfl (ho1.alloc _) rfl (by omega) (by decide) ?_; intro ao1 cp1 w1 hown' hgrow hblk)
        have hst := HO.out.step2 (o1 := .cells #[.int .i64 x, .float .f64 b] 44) (o2 := .cells #[.int .i64 (x), .float .f64 b] 44) (by rw [show (fb ((xs.take k).map fun p => ((fun a => max a (z - most + 1)) p.1, p.2))).length = k from by rw [fb_length, List.length_map, List.length_take]; omega]; exact hown') hgrow hblk
        have HS := Lib.hid hst
        clear hst hown' hgrow hblk ho1 c0 c1
        go_wp2
        go_roundw
        case rel =>
          refine ⟨k + 1, ao1, cp1, by omega, by go_num, rfl, ?_⟩
          have hh := HS.out
          rw [HST.out, fb_append]
          rw [HB.out] at hh
          try rw [HX.out] at hh
          have e : max xs[k].1 (z - most + 1) = xs[k].1 := by have := HX.out; omega
          rw [e]
          exact hh
        case measure => simp [intOf]; omega
    · obtain rfl : k = xs.length := by omega
      have HO := Lib.hid hown
      have hz := hown.2.size
      have hmr : ((xs.take xs.length).map fun p => ((fun a => max a (z - most + 1)) p.1, p.2)) = liftB (z - most + 1) xs := by rw [List.take_length]; rfl
      have hlr := (lie2_of_owns hown.1.1).2.2.2
      rw [hmr] at hlr
      have hlen : (liftB (z - most + 1) xs).length = xs.length := by simp [liftB]
      have HH := summed_any ar cr (liftB (z - most + 1) xs) wr hlr (by rw [hlen, HM.out]; omega) (by rw [lift_tot]; exact HT.out)
      rw [hlen] at HH
      have HLE := Lib.hid hlen
      clear hown hlt hmr hlr hlen
      rw [HM.out] at HH ⊢
      have hk2 : ¬ ((m : Int) + 1 < (m : Int) + 1) := by omega
      go_wp2_with (go_at_call 30; (with_reducible refine HH.mono ?_); rintro e w2 ⟨ao2, c2, rfl, hs2⟩; have HS := Lib.hid hs2; clear hs2)
      go_ret
      refine ⟨ao2, c2, rfl, ⟨⟨HS.out.1.1, fun k hk => ?_⟩, HO.out.2.trans (HS.out.2.mono hz)⟩⟩
      have := HS.out.1.2 k hk
      omega

set_option maxRecDepth 100000 in
theorem highNil_any (ao : Option Addr) (cp : Nat) (most : Int) (w : World) : Calls Tryz.prog 32 #[.slice ao 0 cp, .int .i64 most] w fun e w' => GivesP 44 (fb (highB most [])) w e w' := by
  go_enter Tryz.func32, Tryz.ntmps32
  go_wp2
  go_ret
  exact ⟨none, 0, rfl, Own2.nil _ _⟩

set_option maxRecDepth 100000 in
set_option maxHeartbeats 800000 in
theorem high_any (ao : Option Addr) (cp : Nat) (most : Int) (xs : Bins) (w : World) (hl : Lie2 w ao (fb xs)) (hr : InR xs) (h1 : 1 ≤ most) (h2 : most ≤ 500) (hn : xs.length ≤ 2147483647) (ht : tot xs < 9007199254740992) :
    Calls Tryz.prog 32 #[.slice ao xs.length cp, .int .i64 most] w fun e w' => GivesP 44 (fb (highB most xs)) w e w' := by
  by_cases h0 : xs = []
  · subst h0; exact highNil_any ao cp most w
  have hpos : 0 < xs.length := List.length_pos_iff.2 h0
  obtain ⟨m, hm⟩ : ∃ m, xs.length = m + 1 := ⟨xs.length - 1, by omega⟩
  have hm31 : m < 2147483647 := by omega
  have hF : highB most xs = summed (dropB (firstI xs + most - 1) xs) := by unfold highB; rw [if_neg h0]
  have hb := hr (xs[0]'(by omega)) (List.getElem_mem _)
  rw [hF, firstI_get xs hpos]
  have hcell : ∃ g off, ao = some ⟨g, off, none⟩ ∧ w.cell? ⟨g, off, none⟩ = some (.int .i64 (xs[0]'(by omega)).1) := by
    rcases id hl with h | ⟨g, off, h, hc⟩
    · have := congrArg List.length h; rw [fb_length, List.length_nil] at this; omega
    · refine ⟨g, off, h, ?_⟩
      have := (hc 0 (by rw [fb_length]; omega)).1
      rw [fb_get] at this
      simpa using this
  obtain ⟨gq, oq, hao, hc0⟩ := hcell
  generalize (xs[0]'(by omega)).1 = z at hb hc0 ⊢
  have HL := Lib.hid hl
  have HT := Lib.hid ht
  have HR := Lib.hid hr
  have HM := Lib.hid hm
  have HA := Lib.hid hao
  obtain ⟨hz1, hz2⟩ := hb
  clear hF hl ht hr h0
  subst hao
  go_enter Tryz.func32, Tryz.ntmps32
  rw [hm]
  clear hm hpos hn
  have hm0 : 0 < m + 1 := by omega
  have hm00 : (0 : Int) < (m : Int) + 1 := by omega
  go_wp2
  clear hm0 hm00
  clear hc0
  go_loopw [6, 21] (fun v i wr => MovRel (fun a => min a (z + most - 1)) xs w wr v i) (fun _ i _ => xs.length - (intOf i).toNat)
  case atStart => exact ⟨0, none, 0, by omega, rfl, rfl, by rw [List.take_zero]; exact Own2.nil _ _⟩
  case round =>
    obtain ⟨k, ar, cr, hk, rfl, rfl, hown⟩ := hrel
    by_cases hlt : k < xs.length
    · have hbw := hown.2
      rcases HL.out.later hbw with h0 | ⟨g, off, he, hcell⟩
      · have := congrArg List.length h0; rw [fb_length, List.length_nil] at this; omega
      cases he
      obtain ⟨c0, c1⟩ := hcell k (by rw [fb_length]; exact hlt)
      rw [fb_get] at c0 c1
      dsimp only at c0 c1
      have hkm : k < m + 1 := by have := HM.out; omega
      have hlt' : (k : Int) < (m : Int) + 1 := by omega
      have hxr := HR.out xs[k] (List.getElem_mem hlt)
      obtain ⟨hx1, hx2⟩ := hxr
      have hst : (xs.take (k + 1)).map (fun p => ((fun a => min a (z + most - 1)) p.1, p.2)) = ((xs.take k).map fun p => ((fun a => min a (z + most - 1)) p.1, p.2)) ++ [(min xs[k].1 (z + most - 1), xs[k].2)] := by
        rw [List.take_succ_eq_append_getElem hlt, List.map_append]; rfl
      have HST := Lib.hid hst
      obtain ⟨x, hx⟩ : ∃ x, x = xs[k].1 := ⟨_, rfl⟩
      obtain ⟨b, hbb⟩ : ∃ b, b = nf xs[k].2 := ⟨_, rfl⟩
      rw [← hx] at c0 hx1 hx2
      rw [← hbb] at c1
      have HX := Lib.hid hx
      have HB := Lib.hid hbb
      have hz := hown.2.size
      have HO := Lib.hid hown
      have ho1 := hown.1.1
      have hkl : (fb ((xs.take k).map fun p => ((fun a => min a (z + most - 1)) p.1, p.2))).length = k := by rw [fb_length, List.length_map, List.length_take]; omega
      rw [hkl] at ho1
      clear hx hbb hown hcell hbw hkl hst
      by_cases hcase : z + most - 1 < x
      · go_wp2_with (at_builtin; refine wpList_append_pair (wr.alloc (.cells #[.int .i64 x, .float .f64 b] 44)) (wr.heap.size + 1) (by simp) (z + most - 1) b rfl _ _ 24 44 rfl (.agg #[.int .i64 0, .float .f64 0]) 16 Tryz.underlying24 Tryz.infoSB rfl (.slice ar k cr) k (fb ((xs.take k).map fun p => ((fun a => min a (z + most - 1)) p.1, p.2))) rfl (ho1.alloc _) rfl (by omega) (by decide) ?_; intro ao1 cp1 w1 hown' hgrow hblk)
        have hst := HO.out.step2 (o1 := .cells #[.int .i64 x, .float .f64 b] 44) (o2 := .cells #[.int .i64 (z + most - 1), .float .f64 b] 44) (by rw [show (fb ((xs.take k).map fun p => ((fun a => min a (z + most - 1)) p.1, p.2))).length = k from by rw [fb_length, List.length_map, List.length_take]; omega]; exact hown') hgrow hblk
        have HS := Lib.hid hst
        clear hst hown' hgrow hblk ho1 c0 c1
        go_wp2
        go_roundw
        case rel =>
          refine ⟨k + 1, ao1, cp1, by omega, by go_num, rfl, ?_⟩
          have hh := HS.out
          rw [HST.out, fb_append]
          rw [HB.out] at hh
          try rw [HX.out] at hh
          have e : min xs[k].1 (z + most - 1) = z + most - 1 := by have := HX.out; omega
          rw [e]
          exact hh
        case measure => simp [intOf]; omega
      · go_wp2_with (at_builtin; refine wpList_append_pair (wr.alloc (.cells #[.int .i64 x, .float .f64 b] 44)) (wr.heap.size + 1) (by simp) (x) b rfl _ _ 24 44 rfl (.agg #[.int .i64 0, .float .f64 0]) 16 Tryz.underlying24 Tryz.infoSB rfl (.slice ar k cr) k (fb ((xs.take k).map fun p => ((fun a => min a (z + most - 1)) p.1, p.2))) rfl (ho1.alloc _) rfl (by omega) (by decide) ?_; intro ao1 cp1 w1 hown' hgrow hblk)
        have hst := HO.out.step2 (o1 := .cells #[.int .i64 x, .float .f64 b] 44) (o2 := .cells #[.int .i64 (x), .float .f64 b] 44) (by rw [show (fb ((xs.take k).map fun p => ((fun a => min a (z + most - 1)) p.1, p.2))).length = k from by rw [fb_length, List.length_map, List.length_take]; omega]; exact hown') hgrow hblk
        have HS := Lib.hid hst
        clear hst hown' hgrow hblk ho1 c0 c1
        go_wp2
        go_roundw
        case rel =>
          refine ⟨k + 1, ao1, cp1, by omega, by go_num, rfl, ?_⟩
          have hh := HS.out
          rw [HST.out, fb_append]
          rw [HB.out] at hh
          try rw [HX.out] at hh
          have e : min xs[k].1 (z + most - 1) = xs[k].1 := by have := HX.out; omega
          rw [e]
          exact hh
        case measure => simp [intOf]; omega
    · obtain rfl : k = xs.length := by omega
      have HO := Lib.hid hown
      have hz := hown.2.size
      have hmr : ((xs.take xs.length).map fun p => ((fun a => min a (z + most - 1)) p.1, p.2)) = dropB (z + most - 1) xs := by rw [List.take_length]; rfl
      have hlr := (lie2_of_owns hown.1.1).2.2.2
      rw [hmr] at hlr
      have hlen : (dropB (z + most - 1) xs).length = xs.length := by simp [dropB]
      have HH := summed_any ar cr (dropB (z + most - 1) xs) wr hlr (by rw [hlen, HM.out]; omega) (by rw [drop_tot]; exact HT.out)
      rw [hlen] at HH
      have HLE := Lib.hid hlen
      clear hown hlt hmr hlr hlen
      rw [HM.out] at HH ⊢
      have hk2 : ¬ ((m : Int) + 1 < (m : Int) + 1) := by omega
      go_wp2_with (go_at_call 30; (with_reducible refine HH.mono ?_); rintro e w2 ⟨ao2, c2, rfl, hs2⟩; have HS := Lib.hid hs2; clear hs2)
      go_ret
      refine ⟨ao2, c2, rfl, ⟨⟨HS.out.1.1, fun k hk => ?_⟩, HO.out.2.trans (HS.out.2.mono hz)⟩⟩
      have := HS.out.1.2 k hk
      omega

theorem GivesP.tail {w w1 : World} {ps : List (Int × Nat)} {e : Ending} {w' : World} (hb : Below w.heap.size w w1) (h : GivesP 44 ps w1 e w') : GivesP 44 ps w e w' := by
  obtain ⟨ao, c, rfl, ⟨h1, h2⟩, h3⟩ := h
  have hz := hb.size
  exact ⟨ao, c, rfl, ⟨h1, fun k hk => by have := h2 k hk; omega⟩, hb.trans (h3.mono hz)⟩

set_option maxRecDepth 100000 in
set_option maxHeartbeats 400000 in
theorem kept_any (ao : Option Addr) (cp : Nat) (kind most : Int) (xs : Bins) (w : World) (hl : Lie2 w ao (fb xs)) (hr : InR xs) (hk : knownB kind most = true) (hn : xs.length ≤ 2147483647) (ht : tot xs < 9007199254740992) :
    Calls Tryz.prog 14 #[.int .i64 kind, .int .i64 most, .slice ao xs.length cp] w fun e w' => GivesP 44 (fb (keptB kind most xs)) w e w' := by
  have HS := summed_any ao cp xs w hl hn ht
  have hsl := summed_length xs
  have HR := Lib.hid hr.summed
  have HT : Hid (tot (summed xs) < 9007199254740992) := by show _ < _; rw [summed_tot]; exact ht
  have HSL : Hid ((summed xs).length ≤ 2147483647) := by show _ ≤ _; omega
  have hmm : kind = 3 ∨ kind = 4 → 1 ≤ most ∧ most ≤ 500 := by
    intro h
    simp only [knownB, Bool.or_eq_true, Bool.and_eq_true, decide_eq_true_eq, beq_iff_eq] at hk
    omega
  have HMM := Lib.hid hmm
  clear hl hr ht hsl hmm hn hk
  by_cases h3 : kind = 3
  · subst h3
    have hq : keptB 3 most xs = lowB most (summed xs) := rfl
    have HQ := Lib.hid hq
    clear hq
    go_enter Tryz.func14, Tryz.ntmps14
    go_wp2_with fail
    refine HS.mono ?_
    rintro e w1 ⟨ao1, c1, rfl, ho⟩
    rw [fb_length] at ho ⊢
    have HL := low_any ao1 c1 most (summed xs) w1 (lie2_of_owns ho.1.1).2.2.2 HR.out (HMM.out (by simp)).1 (HMM.out (by simp)).2 HSL.out HT.out
    have HO := Lib.hid ho
    clear ho HS
    go_wp2_with (go_at_call 31; (with_reducible refine HL.mono ?_); rintro e w2 ⟨ao2, c2, rfl, hs2⟩; have HS2 := Lib.hid hs2; clear hs2)
    go_ret
    rw [HQ.out]
    exact GivesP.tail HO.out.2 ⟨ao2, c2, rfl, HS2.out⟩
  · by_cases h4 : kind = 4
    · subst h4
      have hq : keptB 4 most xs = highB most (summed xs) := rfl
      have HQ := Lib.hid hq
      clear hq
      go_enter Tryz.func14, Tryz.ntmps14
      go_wp2_with fail
      refine HS.mono ?_
      rintro e w1 ⟨ao1, c1, rfl, ho⟩
      rw [fb_length] at ho ⊢
      have HL := high_any ao1 c1 most (summed xs) w1 (lie2_of_owns ho.1.1).2.2.2 HR.out (HMM.out (by simp)).1 (HMM.out (by simp)).2 HSL.out HT.out
      have HO := Lib.hid ho
      clear ho HS
      go_wp2_with (go_at_call 32; (with_reducible refine HL.mono ?_); rintro e w2 ⟨ao2, c2, rfl, hs2⟩; have HS2 := Lib.hid hs2; clear hs2)
      go_ret
      rw [HQ.out]
      exact GivesP.tail HO.out.2 ⟨ao2, c2, rfl, HS2.out⟩
    · have hq : keptB kind most xs = summed xs := by unfold keptB; rw [if_neg h3, if_neg h4]
      have HQ := Lib.hid hq
      have h3' : (kind == 3) = false := by simpa using h3
      have h4' : (kind == 4) = false := by simpa using h4
      clear hq h3 h4
      go_enter Tryz.func14, Tryz.ntmps14
      go_wp2_with fail
      refine HS.mono ?_
      rintro e w1 ⟨ao1, c1, rfl, ho⟩
      have HO := Lib.hid ho
      clear ho HS
      go_wp2
      go_ret
      rw [HQ.out]
      exact ⟨ao1, c1, rfl, HO.out⟩
end Go.Proofs.YtnmbjalojgccmaaGreat
end
