/-
  The sparse store: Bins, MinIndex, MaxIndex, KeyAtRank.
-/
import Derived.Test.YtnmbjalojgccmaaGreatQR
section
namespace Go.Proofs.YtnmbjalojgccmaaGreat
open Go.RowKit Go.Maps

theorem bins_unique {l m : Bins} (ha : Asc l) (hp : Pos l) (hr : InR l) (ha2 : Asc m) (hp2 : Pos m) (h : cntB l = cntB m) : l = m := by
  rw [← nz_all ha hp (-10000) 10000 (fun i hi => cntB_inR hr i (.inl hi)) (fun i hi => cntB_inR hr i (.inr hi)), h]
  exact nz_all ha2 hp2 (-10000) 10000 (fun i hi => by rw [← h]; exact cntB_inR hr i (.inl hi)) (fun i hi => by rw [← h]; exact cntB_inR hr i (.inr hi))

def BinsSRel (ps : List (Int × Nat)) (w wr : World) (v i : Value) : Prop :=
  ∃ k ao c, k ≤ ps.length ∧ i = .int .i64 (k : Int) ∧ v = .slice ao k c ∧ Own2 145 w wr (.slice ao k c) (ps.take k)

theorem giv_lie {t : TypeId} {w w1 : World} {ar : Option Addr} {cr : Nat} {ps : List (Int × Nat)} (h : Own2 t w w1 (.slice ar ps.length cr) ps) : Lie2 w1 ar ps := (lie2_of_owns h.1.1).2.2.2

set_option maxRecDepth 100000 in
set_option maxHeartbeats 400000 in
theorem binsS_any (f : Int → Nat) (p b k : Nat) (K : Bins) (w : World) (h : Sparse f p b k w) (hk : k ≤ 1000000) (hz : ∀ i, i < -10000 ∨ 10000 < i → f i = 0) (hs : tot2 f < 1000000000) (hK1 : Asc K) (hK2 : Pos K) (hK3 : cntB K = f) :
    Calls Tryz.prog 244 #[.pointer (some ⟨p, 0, none⟩)] w fun e w' => GivesP 145 (fb K) w e w' := by
  have HOR := ordered_any f p b k w h hk hz hs
  have HZ := Lib.hid hz
  have HS := Lib.hid hs
  have HK : Hid (Asc K ∧ Pos K ∧ cntB K = f) := ⟨hK1, hK2, hK3⟩
  clear h hz hs hK1 hK2 hK3
  go_enter Tryz.func244, Tryz.ntmps244
  go_wp2_with fail
  refine HOR.mono ?_
  clear HOR
  rintro e w0 ⟨zs, hnd, hmem, hsort, ar0, cr0, rfl, hown0⟩
  have hKe : binsOf f zs = K := bins_unique (binsOf_asc hnd hsort) (binsOf_pos hmem) (binsOf_inR hmem HZ.out) HK.out.1 HK.out.2.1 (by rw [binsOf_cnt hnd hmem, HK.out.2.2])
  rw [hKe] at hown0
  rw [hKe]
  have hlen : (fb K).length < 1000000000 := by
    rw [← hKe, fb_length]
    have h1 := pos_len (binsOf_pos hmem)
    rw [← tot2_cnt (binsOf_inR hmem HZ.out), binsOf_cnt hnd hmem] at h1
    have := HS.out; omega
  have HL := Lib.hid (giv_lie hown0)
  have HB0 := Lib.hid hown0.2
  clear hnd hmem hsort hKe hown0 HK
  obtain ⟨ps, hps⟩ : ∃ ps, ps = fb K := ⟨_, rfl⟩
  have HPS := Lib.hid hps
  rw [← hps] at HL hlen ⊢
  clear hps
  go_wp2
  go_loopw [4, 11] (fun v i wr => BinsSRel ps w0 wr v i) (fun _ i _ => ps.length - (intOf i).toNat)
  case atStart => exact ⟨0, none, 0, by omega, rfl, rfl, Own2.nil _ _⟩
  case round =>
    obtain ⟨k, ar, cr, hk, rfl, rfl, hown⟩ := hrel
    by_cases hlt : k < ps.length
    · have hbw := hown.2
      have hlie := HL.out.later hbw
      rcases hlie with h0 | ⟨g, off, rfl, hcell⟩
      · rw [h0] at hlt; exact absurd hlt (Nat.not_lt_zero _)
      obtain ⟨c0, c1⟩ := hcell k hlt
      obtain ⟨x, hx⟩ : ∃ x, x = ps[k].1 := ⟨_, rfl⟩
      obtain ⟨b, hb⟩ : ∃ b, b = ps[k].2 := ⟨_, rfl⟩
      rw [← hx] at c0
      rw [← hb] at c1
      have HX := Lib.hid hx
      have HB := Lib.hid hb
      have hz := hown.2.size
      have HO := Lib.hid hown
      have ho1 := hown.1.1
      have hkl : (ps.take k).length = k := by simp; omega
      rw [hkl] at ho1
      clear hx hb hown hcell hbw hkl
      go_wp2_with (at_builtin; refine wpList_append_pair (wr.alloc (.cells #[.int .i64 x, .float .f64 b] 145)) (wr.heap.size + 1) (by simp) x b rfl _ _ 142 145 rfl (.agg #[.int .i64 0, .float .f64 0]) 16 Tryz.underlying142 Tryz.infoStB rfl (.slice ar k cr) k (ps.take k) rfl (ho1.alloc _) rfl (by omega) (by decide) ?_; intro ao1 cp1 w1 hown' hgrow hblk)
      have hst := HO.out.step2 (o1 := .cells #[.int .i64 x, .float .f64 b] 145) (o2 := .cells #[.int .i64 x, .float .f64 b] 145) (by rw [show (ps.take k).length = k from by simp; omega]; exact hown') hgrow hblk
      have HS := Lib.hid hst
      clear hst hown' hgrow hblk ho1 c0 c1
      go_wp2
      go_roundw
      case rel =>
        refine ⟨k + 1, ao1, cp1, by omega, by go_num, rfl, ?_⟩
        have := HS.out
        rw [HX.out, HB.out] at this
        rw [List.take_succ_eq_append_getElem hlt]
        exact this
      case measure => simp [intOf]; omega
    · obtain rfl : k = ps.length := by omega
      have HO := Lib.hid hown
      clear hown hlt
      go_wp2
      go_ret
      have h2 := HO.out
      rw [List.take_length] at h2
      rw [show fb K = ps from HPS.out.symm]
      exact ⟨ar, cr, rfl, ⟨h2.1.1, fun q hq => Nat.le_trans HB0.out.size (h2.1.2 q hq)⟩, HB0.out.trans (h2.2.mono HB0.out.size)⟩

def MinSRel (m : Int) (zs : List Int) (w wr : World) (v i : Value) : Prop :=
  ∃ k : Nat, k ≤ zs.length ∧ i = .int .i64 (k : Int) ∧ v = .int .i64 (if k = 0 then 9223372036854775807 else m) ∧ wr = w
def MaxSRel (zs : List Int) (w wr : World) (v i : Value) : Prop :=
  ∃ (k : Nat) (z : Int), k ≤ zs.length ∧ i = .int .i64 (k : Int) ∧ v = .int .i64 z ∧ Hid (∀ (h : 0 < k) (h2 : k ≤ zs.length), z = zs[k - 1]) ∧ Hid (k = 0 → z = -9223372036854775808) ∧ wr = w

/-- Nothing at all, or a least index. -/
theorem isEmptyS_not {f : Int → Nat} {p b k : Nat} {w : World} (h : Sparse f p b k w) (m : Int) (hm : 0 < f m) :
    Calls Tryz.prog 250 #[.pointer (some ⟨p, 0, none⟩)] w fun e w' => e = .returned (.bool false) ∧ w' = w :=
  (isEmptyS_any f p b k w h).mono fun e w' hh => by
    obtain ⟨⟨B, h1, h2⟩, h3⟩ := hh
    cases B
    · exact ⟨h1, h3⟩
    · have := h2.1 rfl m; omega
theorem isEmptyS_yes {f : Int → Nat} {p b k : Nat} {w : World} (h : Sparse f p b k w) (hm : ∀ i, f i = 0) :
    Calls Tryz.prog 250 #[.pointer (some ⟨p, 0, none⟩)] w fun e w' => e = .returned (.bool true) ∧ w' = w :=
  (isEmptyS_any f p b k w h).mono fun e w' hh => by
    obtain ⟨⟨B, h1, h2⟩, h3⟩ := hh
    rw [h2.2 hm] at h1
    exact ⟨h1, h3⟩

set_option maxRecDepth 100000 in
set_option maxHeartbeats 400000 in
theorem minS_any (f : Int → Nat) (p b k : Nat) (m : Int) (w : World) (h : Sparse f p b k w) (hk : k ≤ 1000000) (hz : ∀ i, i < -10000 ∨ 10000 < i → f i = 0) (hs : tot2 f < 1000000000) (hm1 : 0 < f m) (hm2 : ∀ i, i < m → f i = 0) :
    Calls Tryz.prog 254 #[.pointer (some ⟨p, 0, none⟩)] w fun e w' => e = .returned (.tuple #[.int .i64 m, .nilIface]) ∧ Below w.heap.size w w' := by
  have HE := isEmptyS_not h m hm1
  obtain ⟨hp, ⟨D, ho, hm⟩, hne⟩ := h
  have d0 := cell_of_row _ _ 0 _ _ _ hp
  have HSO := sorted_any f D b k w ho hm (Nat.le_trans ho.size_le hk)
  have HZ := Lib.hid hz
  have HS := Lib.hid hs
  have HM1 := Lib.hid hm1
  have HM2 := Lib.hid hm2
  clear hp ho hm hz hs hne hm1 hm2
  go_enter Tryz.func254, Tryz.ntmps254
  go_wp2_with (go_at_call 250; (with_reducible refine HE.mono ?_); rintro e w' ⟨rfl, rfl⟩)
  go_wp2_with fail
  refine HSO.mono ?_
  clear HSO HE
  rintro e w1 ⟨zs, ar, cr, rfl, hrow, -, hbel, hnd, hmem, hsort⟩
  obtain ⟨hlie, -⟩ := lieI_of hrow
  have hlen : zs.length < 1000000000 := by
    have h1 := pos_len (binsOf_pos hmem)
    rw [binsOf_length, ← tot2_cnt (binsOf_inR hmem HZ.out), binsOf_cnt hnd hmem] at h1
    have := HS.out; omega
  have hmz : m ∈ zs := (hmem m).2 HM1.out
  have hge : Hid (∀ k, (h : k < zs.length) → m ≤ zs[k] ∧ zs[k] ≤ 10000) := fun k h => by
    have h1 := (hmem zs[k]).1 (List.getElem_mem h)
    have h3 := binsOf_inR hmem HZ.out (zs[k], f zs[k]) (List.mem_map.2 ⟨zs[k], List.getElem_mem h, rfl⟩)
    refine ⟨?_, h3.2⟩
    by_cases c : m ≤ zs[k]
    · exact c
    · have := HM2.out zs[k] (by omega); omega
  have hzero : Hid (∀ h : 0 < zs.length, zs[0] = m) := fun h => by
    obtain ⟨j, hj, e⟩ := List.getElem_of_mem hmz
    have h1 := (hge.out 0 h).1
    have h2 : zs[0] ≤ zs[j] := by
      rcases Nat.eq_zero_or_pos j with c | c
      · subst c; exact Int.le_refl _
      · exact List.pairwise_iff_getElem.1 hsort 0 j h hj c
    omega
  have hpos : 0 < zs.length := List.length_pos_of_mem hmz
  have HB := Lib.hid hbel
  have HL := Lib.hid hlie
  clear hrow hbel hnd hmem hsort hlie d0 hmz
  go_wp2
  go_loopw [4, 16] (fun v i wr => MinSRel m zs w1 wr v i) (fun _ i _ => zs.length - (intOf i).toNat)
  case atStart => exact ⟨0, by omega, rfl, rfl, rfl⟩
  case round =>
    obtain ⟨k, hk, rfl, rfl, rfl⟩ := hrel
    by_cases hlt : k < zs.length
    · rcases HL.out with h0 | ⟨g, rfl, hcell⟩
      · rw [h0] at hlt; simp at hlt
      have c0 := hcell k hlt
      have hg := hge.out k hlt
      by_cases hk0 : k = 0
      · subst hk0
        rw [hzero.out hlt] at c0
        have hm3 : m ≤ 10000 := by have := hzero.out hlt; omega
        clear hg hcell
        rw [if_pos rfl]
        go_wp2
        go_roundw
        case rel => exact ⟨1, by omega, rfl, rfl, rfl⟩
        case measure => simp [intOf]; omega
      · obtain ⟨x, hx⟩ : ∃ x, x = zs[k] := ⟨_, rfl⟩
        rw [← hx] at c0 hg
        have hnl : ¬ x < m := by omega
        clear hx hcell hg
        rw [if_neg hk0]
        go_wp2
        go_roundw
        case rel => exact ⟨k + 1, by omega, by go_num, by rw [if_neg (by omega)], rfl⟩
        case measure => simp [intOf]; omega
    · obtain rfl : k = zs.length := by omega
      clear hlt
      rw [if_neg (by omega)]
      go_wp2
      go_ret2
      exact ⟨rfl, HB.out⟩

set_option maxRecDepth 100000 in
set_option maxHeartbeats 400000 in
theorem maxS_any (f : Int → Nat) (p b k : Nat) (m : Int) (w : World) (h : Sparse f p b k w) (hk : k ≤ 1000000) (hz : ∀ i, i < -10000 ∨ 10000 < i → f i = 0) (hs : tot2 f < 1000000000) (hm1 : 0 < f m) (hm2 : ∀ i, m < i → f i = 0) :
    Calls Tryz.prog 252 #[.pointer (some ⟨p, 0, none⟩)] w fun e w' => e = .returned (.tuple #[.int .i64 m, .nilIface]) ∧ Below w.heap.size w w' := by
  have HE := isEmptyS_not h m hm1
  obtain ⟨hp, ⟨D, ho, hm⟩, hne⟩ := h
  have d0 := cell_of_row _ _ 0 _ _ _ hp
  have HSO := sorted_any f D b k w ho hm (Nat.le_trans ho.size_le hk)
  have HZ := Lib.hid hz
  have HS := Lib.hid hs
  have HM1 := Lib.hid hm1
  have HM2 := Lib.hid hm2
  clear hp ho hm hz hs hne hm1 hm2
  go_enter Tryz.func252, Tryz.ntmps252
  go_wp2_with (go_at_call 250; (with_reducible refine HE.mono ?_); rintro e w' ⟨rfl, rfl⟩)
  go_wp2_with fail
  refine HSO.mono ?_
  clear HSO HE
  rintro e w1 ⟨zs, ar, cr, rfl, hrow, -, hbel, hnd, hmem, hsort⟩
  obtain ⟨hlie, -⟩ := lieI_of hrow
  have hlen : zs.length < 1000000000 := by
    have h1 := pos_len (binsOf_pos hmem)
    rw [binsOf_length, ← tot2_cnt (binsOf_inR hmem HZ.out), binsOf_cnt hnd hmem] at h1
    have := HS.out; omega
  have hmz : m ∈ zs := (hmem m).2 HM1.out
  have hasc : Hid (∀ i j, (hi : i < zs.length) → (hj : j < zs.length) → i < j → zs[i] < zs[j]) := fun i j hi hj hij => by
    have := List.pairwise_iff_getElem.1 hsort i j hi hj hij
    have h2 : zs[i] ≠ zs[j] := List.pairwise_iff_getElem.1 hnd i j hi hj hij
    omega
  have hge : Hid (∀ k, (h : k < zs.length) → -10000 ≤ zs[k]) := fun k h => (binsOf_inR hmem HZ.out (zs[k], f zs[k]) (List.mem_map.2 ⟨zs[k], List.getElem_mem h, rfl⟩)).1
  have hlast : Hid (∀ h : zs.length - 1 < zs.length, zs[zs.length - 1] = m) := fun h => by
    obtain ⟨j, hj, e⟩ := List.getElem_of_mem hmz
    have h1 := (hmem zs[zs.length - 1]).1 (List.getElem_mem h)
    by_cases c : j = zs.length - 1
    · subst c; exact e
    · have h2 := hasc.out j (zs.length - 1) hj h (by omega)
      have := HM2.out zs[zs.length - 1] (by omega)
      omega
  have hpos : 0 < zs.length := List.length_pos_of_mem hmz
  have HB := Lib.hid hbel
  have HL := Lib.hid hlie
  clear hrow hbel hnd hmem hsort hlie d0 hmz
  go_wp2
  go_loopw [4, 16] (fun v i wr => MaxSRel zs w1 wr v i) (fun _ i _ => zs.length - (intOf i).toNat)
  case atStart => exact ⟨0, _, by omega, rfl, rfl, fun h => by omega, fun _ => rfl, rfl⟩
  case round =>
    obtain ⟨k, z, hk, rfl, rfl, hz1, hz2, rfl⟩ := hrel
    by_cases hlt : k < zs.length
    · rcases HL.out with h0 | ⟨g, rfl, hcell⟩
      · rw [h0] at hlt; simp at hlt
      have c0 := hcell k hlt
      have hg : z < zs[k] := by
        by_cases hk0 : k = 0
        · have := hz2.out hk0; have := hge.out k hlt; omega
        · rw [hz1.out (by omega) hk]; exact hasc.out (k - 1) k (by omega) hlt (by omega)
      obtain ⟨x, hx⟩ : ∃ x, x = zs[k] := ⟨_, rfl⟩
      rw [← hx] at c0 hg
      have HX := Lib.hid hx
      clear hx hcell
      go_wp2
      go_roundw
      case rel => exact ⟨k + 1, x, by omega, by go_num, rfl, (fun _ _ => HX.out), (fun h => by omega), rfl⟩
      case measure => simp [intOf]; omega
    · obtain rfl : k = zs.length := by omega
      have e1 : z = m := by rw [hz1.out hpos hk]; exact hlast.out (by omega)
      clear hlt
      subst e1
      go_wp2
      go_ret2
      exact ⟨rfl, HB.out⟩

set_option maxRecDepth 100000 in
theorem minSE_any (f : Int → Nat) (p b k : Nat) (w : World) (h : Sparse f p b k w) (hm : ∀ i, f i = 0) :
    Calls Tryz.prog 254 #[.pointer (some ⟨p, 0, none⟩)] w fun e w' => (∃ T v, e = .returned (.tuple #[.int .i64 0, .iface T v])) ∧ w' = w := by
  have HE := isEmptyS_yes h hm
  clear h hm
  go_enter Tryz.func254, Tryz.ntmps254
  go_wp2_with (go_at_call 250; (with_reducible refine HE.mono ?_); rintro e w' ⟨rfl, rfl⟩)
  go_ret2
  exact ⟨⟨_, _, rfl⟩, rfl⟩

set_option maxRecDepth 100000 in
theorem maxSE_any (f : Int → Nat) (p b k : Nat) (w : World) (h : Sparse f p b k w) (hm : ∀ i, f i = 0) :
    Calls Tryz.prog 252 #[.pointer (some ⟨p, 0, none⟩)] w fun e w' => (∃ T v, e = .returned (.tuple #[.int .i64 0, .iface T v])) ∧ w' = w := by
  have HE := isEmptyS_yes h hm
  clear h hm
  go_enter Tryz.func252, Tryz.ntmps252
  go_wp2_with (go_at_call 250; (with_reducible refine HE.mono ?_); rintro e w' ⟨rfl, rfl⟩)
  go_ret2
  exact ⟨⟨_, _, rfl⟩, rfl⟩
end Go.Proofs.YtnmbjalojgccmaaGreat
end
/-
  The sparse store: KeyAtRank.
-/
section
namespace Go.Proofs.YtnmbjalojgccmaaGreat
open Go.RowKit Go.Maps

def KeySRel (r : Nat) (l : Bins) (w wr : World) (v i : Value) : Prop :=
  ∃ k, k ≤ l.length ∧ i = .int .i64 (k : Int) ∧ v = .float .f64 (nf (tot (l.take k))) ∧ Below w.heap.size w wr ∧
    Hid (k < l.length → keyF r 0 l = keyF r (tot (l.take k)) (l.drop k)) ∧ Hid (k = l.length → fgt2 (nf (tot (l.take k))) r = false)

set_option maxRecDepth 100000 in
set_option maxHeartbeats 400000 in
theorem keyS_any (f : Int → Nat) (p b k r : Nat) (w : World) (h : Sparse f p b k w) (hk : k ≤ 1000000) (hz : ∀ i, i < -10000 ∨ 10000 < i → f i = 0) (hs : tot2 f < 1000000000)
   (hr1 : fgt2 (nf 0) r = false) (hr2 : fgt2 (nf (tot2 f)) r = true) :
    Calls Tryz.prog 251 #[.pointer (some ⟨p, 0, none⟩), .float .f64 r] w fun e w' => (∃ K, e = .returned (.int .i64 K) ∧ KeyIs f r K) ∧ Below w.heap.size w w' := by
  have HOR := ordered_any f p b k w h hk hz hs
  have HZ := Lib.hid hz
  have HS := Lib.hid hs
  have HR1 := Lib.hid hr1
  have HR2 := Lib.hid hr2
  clear h hz hs hr1 hr2
  go_enter Tryz.func251, Tryz.ntmps251
  go_wp2_with fail
  refine HOR.mono ?_
  clear HOR
  rintro e w0 ⟨zs, hnd, hmem, hsort, ar0, cr0, rfl, hown0⟩
  have htot : tot (binsOf f zs) = tot2 f := by rw [← tot2_cnt (binsOf_inR hmem HZ.out), binsOf_cnt hnd hmem]
  obtain ⟨l, hl⟩ : ∃ l, l = binsOf f zs := ⟨_, rfl⟩
  have hkey : Hid (KeyIs f r (keyF r 0 l)) := by
    have hne : l ≠ [] := by
      intro e
      have h1 : tot2 f = 0 := by rw [← htot, ← hl, e]; rfl
      have h2 := HR2.out
      rw [h1, HR1.out] at h2; cases h2
    have h1 := keyF_is (l := l) (by rw [hl]; exact binsOf_asc hnd hsort) (by rw [hl]; exact binsOf_inR hmem HZ.out) r HR1.out (by rw [hl, htot]; exact HR2.out) hne
    rw [show cntB l = f from by rw [hl]; exact binsOf_cnt hnd hmem] at h1
    exact h1
  rw [← hl] at hown0 htot
  rw [← hl]
  have hlen : l.length < 1000000000 := by
    have h1 := pos_len (binsOf_pos hmem)
    rw [← hl, htot] at h1
    have := HS.out; omega
  have hLie := giv_lie hown0
  have HL := Lib.hid hLie
  have HB0 := Lib.hid hown0.2
  have HT := Lib.hid htot
  have HFL : Hid ((fb l).length = l.length) := fb_length l
  clear hnd hmem hsort hown0 hl htot hLie
  rw [fb_length]
  go_wp2
  go_loopw [6, 15] (fun v i wr => KeySRel r l w0 wr v i) (fun _ i _ => l.length - (intOf i).toNat)
  case atStart =>
    refine ⟨0, by omega, rfl, by rw [List.take_zero, tot, nf_zero], Below.refl _ _, fun _ => rfl, fun h => ?_⟩
    rw [List.take_zero]; exact HR1.out
  case round =>
    obtain ⟨k, hk, rfl, rfl, hb, HK, HE⟩ := hrel
    by_cases hlt : k < l.length
    · rcases HL.out.later hb with h0 | ⟨g, off, rfl, hcell⟩
      · have := congrArg List.length h0; rw [fb_length, List.length_nil] at this; omega
      obtain ⟨c0, c1⟩ := hcell k (by rw [fb_length]; exact hlt)
      rw [fb_get] at c0 c1
      dsimp only at c0 c1
      have hadd := fun w : World => run_float_arith (P := Tryz.prog) w .add 30 .f64 _ _ _ (nf_add (tot (l.take k)) l[k].2 (by have := tot_succ l k hlt; have := tot_take l (k + 1); have := HT.out; have := HS.out; omega))
      have hd : keyF r (tot (l.take k)) (l.drop k) = if fgt2 (nf (tot (l.take (k + 1)))) r || (l.drop (k + 1)).isEmpty then l[k].1 else keyF r (tot (l.take (k + 1))) (l.drop (k + 1)) := by
        rw [List.drop_eq_getElem_cons hlt, keyF, tot_succ l k hlt]
      have HD := Lib.hid hd
      clear hd
      rw [← tot_succ l k hlt] at hadd
      obtain ⟨b, hbb⟩ : ∃ b, b = nf l[k].2 := ⟨_, rfl⟩
      obtain ⟨x, hx⟩ : ∃ x, x = l[k].1 := ⟨_, rfl⟩
      rw [← hbb] at c1 hadd
      rw [← hx] at c0
      have HX := Lib.hid hx
      have HB := Lib.hid hb
      have hz := hb.size
      obtain ⟨y, hy⟩ : ∃ y, y = nf (tot (l.take (k + 1))) := ⟨_, rfl⟩
      rw [← hy] at hadd
      have HY := Lib.hid hy
      clear hbb hx hb hcell hy
      cases hf : (FloatKind.f64.format.order y r == some .gt)
      · have hf' : Hid (fgt2 y r = false) := hf
        have hn1 : Hid (k + 1 < l.length → keyF r 0 l = keyF r (tot (l.take (k + 1))) (l.drop (k + 1))) := fun h => by
          rw [HK.out hlt, HD.out, ← HY.out, hf'.out, if_neg (by simp; omega)]
        have hn2 : Hid (k + 1 = l.length → fgt2 (nf (tot (l.take (k + 1)))) r = false) := fun _ => by rw [← HY.out]; exact hf'.out
        clear HK HE HD
        go_wp2
        go_roundw
        case rel => exact ⟨k + 1, by omega, by go_num, by rw [HY.out], HB.out.alloc hz _, hn1, hn2⟩
        case measure => simp [intOf]; omega
      · have hres : Hid (x = keyF r 0 l) := by
          have hf' : fgt2 y r = true := hf
          show x = keyF r 0 l
          rw [HK.out hlt, HD.out, ← HY.out, hf', HX.out]; rfl
        clear HK HE HD
        go_wp2
        go_ret
        exact ⟨⟨_, rfl, by rw [hres.out]; exact hkey.out⟩, HB0.out.trans ((HB.out.alloc hz _).mono HB0.out.size)⟩
    · exfalso
      obtain rfl : k = l.length := by omega
      have h1 := HE.out rfl
      rw [List.take_length, HT.out, HR2.out] at h1
      cases h1
end Go.Proofs.YtnmbjalojgccmaaGreat
end
