/-
  The store with pages: Bins. (Printed by gen_page18.py.)
-/
import Derived.Test.YtnmbjalojgccmaaGreatQYF
import Derived.Test.YtnmbjalojgccmaaGreatQS
section
namespace Go.Proofs.YtnmbjalojgccmaaGreat
open Go.RowKit
variable {tg : Int}

theorem below_all {K : Bins} (h1 : Asc K) (h2 : Pos K) (h3 : InR K) : below (cntB K) 10001 = K := by
  have := nz_all h1 h2 (-10000) 10000 (fun i hi => cntB_inR h3 i (.inl hi)) (fun i hi => cntB_inR h3 i (.inr hi))
  exact this

theorem below_length (F : Int → Nat) (y : Int) (h : y ≤ 10001) : (below F y).length ≤ 20001 := by
  unfold below
  have := nz_length F (-10000) (y + 10000).toNat
  omega

/-- What the walk holds: the bins below y, in a row of its own. -/
def BinHeld (G : Int → Nat) (bs : List Int) (x : Int) (bp : Nat) (w wr : World) (v : Value) : Prop :=
  ∃ (y : Int) (l : Bins) (ar : Option Addr) (cr : Nat), v = .slice ar l.length cr ∧ Own2 145 w wr v (fb l) ∧ Hid (Bc G bs x y bp ∧ l = below (both G bs) y ∧ y ≤ 10001) ∧ l.length ≤ 20001

def BinP1 (G : Int → Nat) (bs : List Int) (mp : Int) (n : Nat) (w wr : World) (v b i : Value) : Prop :=
  ∃ (j bp : Nat), j ≤ n ∧ i = .int .i64 (j : Int) ∧ b = .int .i64 (bp : Int) ∧ BinHeld G bs (32 * (mp + (j : Int))) bp w wr v
def BinP2 (G : Int → Nat) (bs : List Int) (x : Int) (w wr : World) (v b i : Value) : Prop :=
  ∃ (k bp : Nat), k ≤ 32 ∧ i = .int .i64 (k : Int) ∧ b = .int .i64 (bp : Int) ∧ BinHeld G bs (32 * x + (k : Int)) bp w wr v
def BinP3 (G : Int → Nat) (bs : List Int) (x : Int) (w wr : World) (v b : Value) : Prop :=
  ∃ (bp : Nat), b = .int .i64 (bp : Int) ∧ BinHeld G bs x bp w wr v
def RunP (bs : List Int) (e : Int) (bp : Nat) (w wr : World) (i : Value) : Prop :=
  ∃ (d t : Nat), 0 < d ∧ bp + d ≤ bs.length ∧ i = .int .i64 ((bp : Int) + (d : Int)) ∧ Hid (∀ j, (hj : j < bs.length) → bp ≤ j → j < bp + d → bs[j] = e) ∧ wr = w.drewN t

/-- One more bin, put behind. -/
theorem BinHeld.next {G : Int → Nat} {bs : List Int} {z y e : Int} {m d : Nat} {w w2 : World} {l : Bins} {ao1 : Option Addr} {cp1 : Nat} (hl : l = below (both G bs) y) (he : e ≤ 10000)
   (hb : Bc G bs z (e + 1) m ∧ below (both G bs) (e + 1) = below (both G bs) y ++ [(e, d)]) (hown : Own2 145 w w2 (.slice ao1 (l.length + 1) cp1) (fb l ++ [(e, nf d)])) :
    BinHeld G bs z m w w2 (.slice ao1 (l.length + 1) cp1) := by
  have h2 : l ++ [(e, d)] = below (both G bs) (e + 1) := by rw [hb.2, hl]
  refine ⟨e + 1, l ++ [(e, d)], ao1, cp1, by rw [List.length_append]; rfl, by rw [fb_append]; exact hown, ⟨hb.1, h2, by omega⟩, ?_⟩
  rw [h2]; exact below_length _ _ (by omega)
theorem BinHeld.skip {G : Int → Nat} {bs : List Int} {x z : Int} {bp : Nat} {w wr : World} {v : Value} (h : BinHeld G bs x bp w wr v) (hxz : x ≤ z) (hz : ∀ i, x ≤ i → i < z → G i = 0) : BinHeld G bs z bp w wr v := by
  obtain ⟨y, l, ar, cr, h1, h2, h3, h4⟩ := h
  exact ⟨y, l, ar, cr, h1, h2, ⟨h3.out.1.skip hxz hz, h3.out.2⟩, h4⟩

set_option maxRecDepth 100000 in
set_option maxHeartbeats 4000000 in
theorem binsP_any (G : Int → Nat) (bs0 : List Int) (q : Int → Option (Nat × Nat)) (mp : Int) (n p : Nat) (bufv pgs : Value) (K : Bins) (w : World) (h0 : Paged tg G bs0 q mp n p bufv pgs w)
   (hI0 : InI bs0) (hz : ∀ i, i < -10000 ∨ 10000 < i → G i = 0) (hT0 : tot2 G + bs0.length < 1000000000) (hK1 : Asc K) (hK2 : Pos K) (hK3 : InR K) (hK4 : cntB K = both G bs0) :
    Calls Tryz.prog 298 #[.pointer (some ⟨p, 0, none⟩)] w fun e w' => ∃ bs' ao c, e = .returned (.slice ao (fb K).length c) ∧ bs'.Perm bs0 ∧ Paged tg G bs' q mp n p bufv pgs w' ∧ Fr (fun k => bufv.ownBlock = some k) w w' ∧
      w'.ownsRow 0 145 2 (.slice ao (fb K).length c) (fb K).length (pc (fb K)) ∧ ∀ k, (Value.slice ao (fb K).length c).ownBlock = some k → w.heap.size ≤ k := by
  have hsort := sortBuf_any G bs0 q mp n p bufv pgs w h0 (by omega)
  have HI0 := Lib.hid hI0
  have HZ0 := Lib.hid hz
  have HT0 := Lib.hid hT0
  have HKK : Hid (Asc K ∧ Pos K ∧ InR K ∧ cntB K = both G bs0) := ⟨hK1, hK2, hK3, hK4⟩
  clear h0 hI0 hz hT0 hK1 hK2 hK3 hK4
  go_enter Tryz.func298, Tryz.ntmps298
  go_wp2_with fail
  refine hsort.mono ?_
  clear hsort
  rintro e w1 ⟨bs, rfl, hperm, hs, h, hfr⟩
  have hI : InI bs := fun b hb => HI0.out b (hperm.mem_iff.1 hb)
  have hz := HZ0.out
  have hT : tot2 G + bs.length < 1000000000 := by rw [hperm.length_eq]; exact HT0.out
  have HPERM := Lib.hid hperm
  have HFR := Lib.hid hfr
  have HBOTH : Hid (below (both G bs) 10001 = K) := by
    have h1 : both G bs = both G bs0 := by
      show (fun i => G i + cntI bs i) = fun i => G i + cntI bs0 i
      rw [cntI_perm hperm]
    show _ = _
    rw [h1, ← HKK.out.2.2.2]
    exact below_all HKK.out.1 HKK.out.2.1 HKK.out.2.2.1
  clear hperm hfr HI0 HZ0 HT0 HKK
  obtain ⟨ao, n1, cb, rfl⟩ := owns_slice h.core.buf
  obtain rfl := owns_len h.core.buf
  obtain ⟨aq, n2, cq, hpgs⟩ := owns_slice h.core.row
  have hnq : n2 = n := by have h2 := h.core.row; rw [hpgs] at h2; exact owns_len h2
  subst hnq
  obtain ⟨n, hn2⟩ : ∃ n, n = n2 := ⟨_, rfl⟩
  subst hn2
  obtain ⟨d0, d1, d2, d3, d4, d5⟩ := h.core.fields.cells
  rw [hpgs] at d2
  have HBD : Hid ((n = 0 ∧ mp = 9223372036854775807) ∨ (0 < n ∧ -330 ≤ mp ∧ mp + (n : Int) ≤ 330)) := by rcases h.bd with ⟨h1, h2, _⟩ | h2; exact .inl ⟨h1, h2⟩; exact .inr h2
  have hnb : n < 1000000000 := by rcases h.bd with ⟨h1, h2, _⟩ | h2 <;> omega
  have hbl0 : bs.length < 1000000000 := by omega
  have HST : Hid (∀ i j, (hi : i < bs.length) → (hj : j < bs.length) → i ≤ j → bs[i] ≤ bs[j]) := fun i j hi hj hij => by
    rcases Nat.lt_or_eq_of_le hij with h | h
    · exact List.pairwise_iff_getElem.1 hs i j hi hj h
    · subst h; exact Int.le_refl _
  have HSM : Hid (∀ x, G x < 1000000000) := fun x => by
    by_cases c : -10000 ≤ x ∧ x ≤ 10000
    · have := one_le_tot G x c.1 c.2; omega
    · rw [hz x (by omega)]; omega
  have HH := Lib.hid h
  have HP := Lib.hid hpgs
  have HZ := Lib.hid hz
  have HI := Lib.hid hI
  clear h hz hT hI hpgs hs
  go_wp2
  go_loopw [3, 4, 20] (fun v b i wr => BinP1 G bs mp n w1 wr v b i) (fun _ _ i _ => n - (intOf i).toNat)
  case atStart =>
    exact ⟨0, 0, Nat.zero_le _, rfl, rfl, -10000, [], none, 0, rfl, Own2.nil _ _, ⟨⟨Nat.zero_le _, fun j hj h => by omega, fun j hj _ => (HI.out bs[j] (List.getElem_mem hj)).1, fun i h1 h2 => HH.out.low (by omega), .inr rfl, Int.le_refl _⟩, rfl, by omega⟩, by simp⟩
  case round =>
    obtain ⟨j, bp, hj, rfl, rfl, hheld⟩ := hrel
    have HHELD := Lib.hid hheld
    obtain ⟨y, l, ar, cr, rfl, hown, hbl, hll⟩ := hheld
    have HHr : Hid (Paged tg G bs q mp n p (.slice ao bs.length cb) pgs wr) := HH.out.grown (grown_of_below hown.2)
    obtain ⟨d0, d1, d2, d3, d4, d5⟩ := HHr.out.core.fields.cells
    rw [HP.out] at d2
    have HOW := Lib.hid hown
    clear hown
    by_cases hlt : j < n
    · have hbd : -330 ≤ mp ∧ mp + (n : Int) ≤ 330 := by have := HBD.out; omega
      obtain ⟨g, c0, hg2, hgc, hcell⟩ := HHr.out.rowAt (by omega)
      have HP2 := HP
      rw [HP.out] at hg2
      cases hg2
      have hc := hcell j hlt
      have hltI : (j : Int) < (n : Int) := by omega
      have i1 : IntKind.i64.wrap ((j : Int) + 1) = (j : Int) + 1 := by rw [IntKind.wrap_i64]; omega
      have i2 : IntKind.i64.wrap (mp + (j : Int)) = mp + (j : Int) := by rw [IntKind.wrap_i64]; omega
      cases hq : q (mp + (j : Int)) with
      | none =>
        rw [hq] at hc
        replace hc : wr.cell? ⟨g, j, none⟩ = some (.slice none 0 0) := hc
        have hnx : Hid (BinHeld G bs (32 * (mp + ((j + 1 : Nat) : Int))) bp w1 wr (.slice ar l.length cr)) := HHELD.out.skip (by omega) (fun i h1 h2 => HH.out.hole hq h1 (by omega))
        clear hcell hq hbl
        go_wp2
        go_loopw [3, 4, 27] (fun v b i wr2 => v = .slice ar l.length cr ∧ b = .int .i64 (bp : Int) ∧ i = .int .i64 0 ∧ wr2 = wr) (fun _ _ _ _ => 0)
        case atStart => exact ⟨rfl, rfl, rfl, rfl⟩
        case round =>
          obtain ⟨rfl, rfl, rfl, rfl⟩ := hrel
          go_wp2
          go_roundw
          case rel => exact ⟨j + 1, bp, by omega, by go_num, rfl, hnx.out⟩
          case measure => simp [intOf]; omega
      | some z =>
        obtain ⟨b, cp⟩ := z
        rw [hq] at hc
        replace hc : wr.cell? ⟨g, j, none⟩ = some (.slice (some ⟨b, 0, none⟩) 32 cp) := hc
        have HQ := Lib.hid hq
        clear hcell hq hbl
        go_wp2
        clear d0 d1 d2 d3 d4 d5 HHr HOW hll
        go_loopw [3, 4, 27] (fun v b i wr2 => BinP2 G bs (mp + (j : Int)) w1 wr2 v b i) (fun _ _ i _ => 32 - (intOf i).toNat)
        case atStart => exact ⟨0, bp, by omega, rfl, rfl, by rw [show 32 * (mp + (j : Int)) + ((0 : Nat) : Int) = 32 * (mp + (j : Int)) from by omega]; exact HHELD.out⟩
        case round =>
          clear hc
          obtain ⟨k, bp, hk, rfl, rfl, hheld⟩ := hrel
          have HHELD := Lib.hid hheld
          obtain ⟨y, l, ar, cr, rfl, hown, hbl, hll⟩ := hheld
          have HHr : Hid (Paged tg G bs q mp n p (.slice ao bs.length cb) pgs wr) := HH.out.grown (grown_of_below hown.2)
          obtain ⟨d0, d1, d2, d3, d4, d5⟩ := HHr.out.core.fields.cells
          rw [HP.out] at d2
          have HOW := Lib.hid hown
          clear hown
          by_cases hk32 : k < 32
          · have hkI : (k : Int) < 32 := by omega
            have i3 : IntKind.i64.wrap ((k : Int) + 1) = (k : Int) + 1 := by rw [IntKind.wrap_i64]; omega
            have cl := (HHr.out.core.page _ _ _ HQ.out).cell k hk32
            have HIX := index_any p (mp + (j : Int)) (k : Int) wr d4 (by omega) (by omega) (by omega) (by omega)
            obtain ⟨x, hx⟩ : ∃ x, x = 32 * (mp + (j : Int)) + (k : Int) := ⟨_, rfl⟩
            have HXE := Lib.hid hx
            rw [← hx] at cl HIX hbl HHELD
            clear hx
            have hord := nf_order (G x) 0 (by have := HSM.out x; omega) (by decide)
            rw [nf_zero] at hord
            obtain ⟨fy, hy⟩ : ∃ fy, fy = nf (G x) := ⟨_, rfl⟩
            rw [← hy] at cl hord
            have HY := Lib.hid hy
            clear hy
            by_cases hg0 : G x = 0
            · have heqz : (FloatKind.f64.format.order fy 0 == some .eq) = true := by rw [hord, hg0]; rfl
              have hnx : Hid (BinHeld G bs (x + 1) bp w1 wr (.slice ar l.length cr)) := HHELD.out.skip (by omega) (fun i h1 h2 => by rw [show i = x from by omega]; exact hg0)
              clear hord hbl HIX
              go_wp2
              go_roundw
              case rel =>
                have e1 : x + 1 = 32 * (mp + (j : Int)) + ((k + 1 : Nat) : Int) := by have := HXE.out; omega
                exact ⟨k + 1, bp, by omega, by go_num, rfl, by rw [← e1]; exact hnx.out⟩
              case measure => simp [intOf]; omega
            · have heqz : (FloatKind.f64.format.order fy 0 == some .eq) = false := by rw [hord, Nat.compare_eq_gt.2 (by omega)]; rfl
              have HGP : Hid (0 < G x) := by show 0 < _; omega
              have HXL : Hid (x ≤ 10000) := by
                show _ ≤ _
                by_cases c : x ≤ 10000
                · exact c
                · exact absurd (HZ.out x (.inr (by omega))) hg0
              have HXLo : Hid (-10000 ≤ x) := by
                show _ ≤ _
                by_cases c : -10000 ≤ x
                · exact c
                · exact absurd (HZ.out x (.inl (by omega))) hg0
              have small2 := HSM.out
              clear hord hg0 hbl
              go_wp2_with (go_at_call 316; (with_reducible refine HIX.mono ?_); rintro e w' ⟨rfl, rfl⟩)
              clear HIX HOW HHr d0 d1 d2 d3 d4 d5 cl hll
              go_loopw [3, 4, 10] (fun v b s wr2 => BinP3 G bs x w1 wr2 v b) (fun _ b _ _ => bs.length - (intOf b).toNat)
              case atStart => exact ⟨bp, rfl, HHELD.out⟩
              case round =>
                obtain ⟨bp, rfl, hheld⟩ := hrel
                obtain ⟨y, l, ar, cr, rfl, hown, hbl, hll⟩ := hheld
                have HHr : Hid (Paged tg G bs q mp n p (.slice ao bs.length cb) pgs wr) := HH.out.grown (grown_of_below hown.2)
                obtain ⟨d0, d1, d2, d3, d4, d5⟩ := HHr.out.core.fields.cells
                rw [HP.out] at d2
                have HOW := Lib.hid hown
                clear hown
                have hble := hbl.out.1.le
                have HYX : Hid (y ≤ x) := by
                  show _ ≤ _
                  have := HXLo.out
                  rcases hbl.out.1.yx with c | c <;> omega
                by_cases hmore : bp < bs.length
                · obtain ⟨gb, hao, hbc⟩ := cellsI HHr.out.core.buf (by omega)
                  subst hao
                  have cb0 := hbc bp hmore
                  have hmI : ¬ ((bs.length : Nat) : Int) ≤ (bp : Int) := by omega
                  have hmI2 : decide (((bs.length : Nat) : Int) ≤ (bp : Int)) = false := by simpa using hmI
                  have hmI3 : (bp : Int) < ((bs.length : Nat) : Int) := by omega
                  have i4 : IntKind.i64.wrap ((bp : Int) + 1) = (bp : Int) + 1 := by rw [IntKind.wrap_i64]; omega
                  have HEL0 := (HI.out bs[bp] (List.getElem_mem hmore)).2
                  obtain ⟨e, he⟩ : ∃ e, e = bs[bp] := ⟨_, rfl⟩
                  have HE : Hid (bs[bp] = e) := he.symm
                  rw [← he] at cb0 HEL0
                  have HEL : Hid (e ≤ 10000) := HEL0
                  clear he hbc HEL0
                  by_cases hgt : x < e
                  · have hbeyond : Hid (∀ j, (hj : j < bs.length) → bp + 0 ≤ j → x < bs[j]) := fun j hj h1 => by have := HST.out bp j hmore hj (by omega); have := HE.out; omega
                    have HRUN : Hid (Bc G bs (x + 1) (x + 1) (bp + 0) ∧ below (both G bs) (x + 1) = below (both G bs) y ++ [(x, G x + 0)]) := by
                      have h9 := hbl.out.1.run HI.out (bp + 0) x (by omega) hbl.out.1.le HYX.out (fun i h1 h2 => hbl.out.1.gap i h1 h2) (by have := HGP.out; omega) (fun j hj h1 h2 => by omega) (fun j hj h1 => hbeyond.out j hj h1) (x + 1) (Int.le_refl _) (fun i h1 h2 => by omega)
                      rw [Nat.add_sub_cancel_left] at h9
                      exact h9
                    have HLB : Hid (l = below (both G bs) y ∧ x ≤ 10000) := ⟨hbl.out.2.1, HXL.out⟩
                    have hadd := fun w : World => run_float_arith (P := Tryz.prog) w .add 30 .f64 _ _ _ (nf_add (G x) 0 (by have := small2 x; omega))
                    rw [← HY.out] at hadd
                    have hcv := fun w : World => run_convert_int_float (P := Tryz.prog) w 3 30 .i64 .f64 0 (by simp [Tryz.underlying3]) Tryz.underlying30
                    have hnn : floatOfInt .f64 0 = nf 0 := rfl
                    have iw : IntKind.i64.wrap ((bp : Int) - (bp : Int)) = 0 := by rw [IntKind.wrap_i64]; omega
                    have ho1 := HOW.out.1.1
                    rw [fb_length] at ho1
                    obtain ⟨s, hs⟩ : ∃ s, s = nf (G x + 0) := ⟨_, rfl⟩
                    rw [← hs] at hadd
                    have HSS := Lib.hid hs
                    clear hs hbl
                    generalize hfd : nf 0 = fd at hadd hnn
                    clear hfd
                    go_wp2_with (at_builtin; refine wpList_append_pair wr wr.heap.size rfl (x) (s) rfl _ _ 142 145 rfl (.agg #[.int .i64 0, .float .f64 0]) 16 Tryz.underlying142 Tryz.infoStB rfl (.slice ar l.length cr) l.length (fb l) rfl ho1 rfl (by omega) (by decide) ?_; intro ao1 cp1 w2 hown' hgrow hblk)
                    have hst := HOW.out.step (o := .cells #[.int .i64 x, .float .f64 s] 145) (by rw [fb_length]; exact hown') hgrow hblk
                    rw [HSS.out] at hst
                    have hnext := BinHeld.next HLB.out.1 HLB.out.2 HRUN.out hst
                    have HN := Lib.hid hnext
                    clear hst hown' hgrow hblk ho1 hnext d0 d1 d2 d3 d4 d5 hadd hcv hnn iw
                    go_wp2
                    go_roundw
                    case rel =>
                      have e1 : x + 1 = 32 * (mp + (j : Int)) + ((k + 1 : Nat) : Int) := by have := HXE.out; omega
                      exact ⟨k + 1, bp, by omega, by go_num, rfl, by rw [← e1]; exact HN.out⟩
                    case measure => simp [intOf]; omega
                  · go_wp2
                    go_loopw [4] (fun i w4 => RunP bs e bp wr w4 i) (fun i _ => bs.length - (intOf i).toNat)
                    case atStart => exact ⟨1, 0, by omega, by omega, by go_num, (fun j hj h1 h2 => by obtain rfl : j = bp := (by omega); exact HE.out), rfl⟩
                    case round =>
                      obtain ⟨d, t, hd0, hdl, rfl, hrun, rfl⟩ := hrel
                      obtain ⟨wt, hwt⟩ : ∃ wt, wt = wr.drewN t := ⟨_, rfl⟩
                      have HWT := Lib.hid hwt
                      have HHt : Hid (Paged tg G bs q mp n p (.slice (some ⟨gb, 0, none⟩) bs.length cb) pgs wt) := by show Paged tg _ _ _ _ _ _ _ _ _; rw [hwt]; exact HHr.out.drewN t
                      have cw0 : wt.cell? ⟨gb, bp, none⟩ = some (.int .i64 e) := by rw [hwt]; exact cb0
                      rw [← hwt]
                      clear hwt d0 d1 d2 d3 d4 d5
                      obtain ⟨d0, d1, d2, d3, d4, d5⟩ := HHt.out.core.fields.cells
                      rw [HP.out] at d2
                      by_cases hlt : bp + d < bs.length
                      · have q1 : decide ((bp : Int) + (d : Int) < ((bs.length : Nat) : Int)) = true := by simp; omega
                        have cw1 : wt.cell? ⟨gb, bp + d, none⟩ = some (.int .i64 bs[bp + d]) := by
                          obtain ⟨g9, e9, h9⟩ := cellsI HHt.out.core.buf (by omega)
                          cases e9
                          exact h9 (bp + d) hlt
                        have iz : (((bp + d : Nat) : Int)) = (bp : Int) + (d : Int) := by omega
                        have hbI : (bp : Int) < ((bs.length : Nat) : Int) := by omega
                        have hbdI : (bp : Int) + (d : Int) < ((bs.length : Nat) : Int) := by omega
                        have hto : ((bp : Int) + (d : Int)).toNat = bp + d := by omega
                        have i7 : IntKind.i64.wrap ((bp : Int) + (d : Int) + 1) = (bp : Int) + (d : Int) + 1 := by rw [IntKind.wrap_i64]; omega
                        by_cases heq : bs[bp + d] = e
                        · have hrun2 : Hid (∀ j, (hj : j < bs.length) → bp ≤ j → j < bp + (d + 1) → bs[j] = e) := fun j hj h1 h2 => by
                            by_cases c : j < bp + d
                            · exact hrun.out j hj h1 c
                            · obtain rfl : j = bp + d := by omega
                              exact heq
                          rw [heq] at cw1
                          clear heq iz
                          go_wp2
                          go_quiet (fail)
                          go_wp2
                          go_roundw
                          case rel => exact ⟨d + 1, t + nq, by omega, by omega, by go_num, hrun2, by rw [HWT.out, drewN2]⟩
                          case measure => simp [intOf] <;> omega
                        · have hstop : Hid (∀ j, (hj : j < bs.length) → bp + d ≤ j → e < bs[j]) := fun j hj h1 => by
                            have h2 := HST.out (bp + d) j hlt hj h1
                            have h3 := HST.out bp (bp + d) (by omega) hlt (by omega)
                            have h4 := HE.out
                            rw [h4] at h3
                            omega
                          obtain ⟨z, hz⟩ : ∃ z, z = bs[bp + d] := ⟨_, rfl⟩
                          rw [← hz] at cw1 heq
                          have z1 : decide (z = e) = false := by simpa using heq
                          have z2 : (z == e) = false := by simpa using heq
                          clear hz iz
                          go_wp2
                          go_quiet (fail)
                          obtain ⟨wv, hwv⟩ : ∃ wv, wv = wt.drewN nq := ⟨_, rfl⟩
                          have HHv : Hid (Paged tg G bs q mp n p (.slice (some ⟨gb, 0, none⟩) bs.length cb) pgs wv) := by show Paged tg _ _ _ _ _ _ _ _ _; rw [hwv]; exact HHt.out.drewN nq
                          have cv0 : wv.cell? ⟨gb, bp, none⟩ = some (.int .i64 e) := by rw [hwv]; exact cw0
                          have HOWv : Hid (Own2 145 w1 wv (.slice ar l.length cr) (fb l)) := by
                            show Own2 _ _ _ _ _
                            rw [hwv, HWT.out, drewN2]
                            exact HOW.out.drewN _
                          have HRUNd := hrun
                          rw [← hwv]
                          clear hwv d0 d1 d2 d3 d4 d5 HOW HHt HHr cw0 cb0 hrun
                          obtain ⟨d0, d1, d2, d3, d4, d5⟩ := HHv.out.core.fields.cells
                          rw [HP.out] at d2
                          have HOW := HOWv
                          clear HOWv
                          by_cases hex : e = x
                          · have HRUN : Hid (Bc G bs (x + 1) (x + 1) (bp + d) ∧ below (both G bs) (x + 1) = below (both G bs) y ++ [(x, G x + d)]) := by
                              have h9 := hbl.out.1.run HI.out (bp + d) x (by omega) hdl (by have := hbl.out.1.hi bp hmore (Nat.le_refl _); have := HE.out; omega) (fun i h1 h2 => hbl.out.1.gap i h1 h2) (by have := HGP.out; omega) (fun j hj h1 h2 => by rw [HRUNd.out j hj h1 h2]; exact hex) (fun j hj h1 => by have := hstop.out j hj h1; omega) (x + 1) (Int.le_refl _) (fun i h1 h2 => by omega)
                              rw [Nat.add_sub_cancel_left] at h9
                              exact h9
                            have HLB : Hid (l = below (both G bs) y ∧ x ≤ 10000) := ⟨hbl.out.2.1, HXL.out⟩
                            have hdb : d < 2000000000 := by omega
                            have hex2 := hex.symm
                            subst hex2
                            clear hbl
                            have hadd := fun w : World => run_float_arith (P := Tryz.prog) w .add 30 .f64 _ _ _ (nf_add (G x) d (by have := small2 x; omega))
                            rw [← HY.out] at hadd
                            have hcv := fun w : World => run_convert_int_float (P := Tryz.prog) w 3 30 .i64 .f64 ((d : Nat) : Int) (by simp [Tryz.underlying3]) Tryz.underlying30
                            have hnn : floatOfInt .f64 ((d : Nat) : Int) = nf d := rfl
                            have iw : IntKind.i64.wrap ((bp : Int) + (d : Int) - (bp : Int)) = (d : Int) := by rw [IntKind.wrap_i64]; omega
                            have ho1 := HOW.out.1.1
                            rw [fb_length] at ho1
                            obtain ⟨s, hs⟩ : ∃ s, s = nf (G x + d) := ⟨_, rfl⟩
                            rw [← hs] at hadd
                            have HSS := Lib.hid hs
                            clear hs
                            generalize hfd : nf d = fd at hadd hnn
                            clear hfd
                            go_wp2_with (at_builtin; refine wpList_append_pair wv wv.heap.size rfl (x) (s) rfl _ _ 142 145 rfl (.agg #[.int .i64 0, .float .f64 0]) 16 Tryz.underlying142 Tryz.infoStB rfl (.slice ar l.length cr) l.length (fb l) rfl ho1 rfl (by omega) (by decide) ?_; intro ao1 cp1 w2 hown' hgrow hblk)
                            have hst := HOW.out.step (o := .cells #[.int .i64 x, .float .f64 s] 145) (by rw [fb_length]; exact hown') hgrow hblk
                            rw [HSS.out] at hst
                            have hnext := BinHeld.next HLB.out.1 HLB.out.2 HRUN.out hst
                            have HN := Lib.hid hnext
                            clear hst hown' hgrow hblk ho1 hnext d0 d1 d2 d3 d4 d5 hadd hcv hnn iw
                            go_wp2
                            go_roundw
                            case rel =>
                              have e1 : x + 1 = 32 * (mp + (j : Int)) + ((k + 1 : Nat) : Int) := by have := HXE.out; omega
                              exact ⟨k + 1, bp + d, by omega, by go_num, by go_num, by rw [← e1]; exact HN.out⟩
                            case measure => simp [intOf]; omega
                          · have z3 : decide (e = x) = false := by simpa using hex
                            have z4 : (e == x) = false := by simpa using hex
                            have HRUN : Hid (Bc G bs x (e + 1) (bp + d) ∧ below (both G bs) (e + 1) = below (both G bs) y ++ [(e, d)]) := by
                              have hye := hbl.out.1.hi bp hmore (Nat.le_refl _)
                              rw [HE.out] at hye
                              have hge := hbl.out.1.gap e hye (by omega)
                              have h9 := hbl.out.1.run HI.out (bp + d) e (by omega) hdl hye (fun i h1 h2 => hbl.out.1.gap i h1 (by omega)) (by omega) HRUNd.out hstop.out x (by omega) (fun i h1 h2 => hbl.out.1.gap i (by omega) h2)
                              rw [Nat.add_sub_cancel_left, hge, Nat.zero_add] at h9
                              exact h9
                            have HLB : Hid (l = below (both G bs) y ∧ e ≤ 10000) := ⟨hbl.out.2.1, HEL.out⟩
                            have hcv := fun w : World => run_convert_int_float (P := Tryz.prog) w 3 30 .i64 .f64 ((d : Nat) : Int) (by simp [Tryz.underlying3]) Tryz.underlying30
                            have hnn : floatOfInt .f64 ((d : Nat) : Int) = nf d := rfl
                            have iw : IntKind.i64.wrap ((bp : Int) + (d : Int) - (bp : Int)) = (d : Int) := by rw [IntKind.wrap_i64]; omega
                            have ho1 := HOW.out.1.1
                            rw [fb_length] at ho1
                            obtain ⟨s, hs⟩ : ∃ s, s = nf d := ⟨_, rfl⟩
                            rw [← hs] at hnn
                            have HSS := Lib.hid hs
                            clear hs hbl
                            go_wp2_with (at_builtin; refine wpList_append_pair wv wv.heap.size rfl (e) (s) rfl _ _ 142 145 rfl (.agg #[.int .i64 0, .float .f64 0]) 16 Tryz.underlying142 Tryz.infoStB rfl (.slice ar l.length cr) l.length (fb l) rfl ho1 rfl (by omega) (by decide) ?_; intro ao1 cp1 w2 hown' hgrow hblk)
                            have hst := HOW.out.step (o := .cells #[.int .i64 e, .float .f64 s] 145) (by rw [fb_length]; exact hown') hgrow hblk
                            rw [HSS.out] at hst
                            have hnext := BinHeld.next HLB.out.1 HLB.out.2 HRUN.out hst
                            have HN := Lib.hid hnext
                            clear hst hown' hgrow hblk ho1 hnext d0 d1 d2 d3 d4 d5 hcv hnn iw
                            go_wp2
                            go_roundw
                            case rel => exact ⟨bp + d, by go_num, HN.out⟩
                            case measure => simp [intOf] <;> omega
                      · have q1 : decide ((bp : Int) + (d : Int) < ((bs.length : Nat) : Int)) = false := by simp; omega
                        have hstop : Hid (∀ j, (hj : j < bs.length) → bp + d ≤ j → e < bs[j]) := fun j hj h1 => by omega
                        have hto : ((bp : Int) + (d : Int)).toNat = bp + d := by omega
                        have hbI : (bp : Int) < ((bs.length : Nat) : Int) := by omega
                        go_wp2
                        go_quiet (fail)
                        obtain ⟨wv, hwv⟩ : ∃ wv, wv = wt.drewN nq := ⟨_, rfl⟩
                        have HHv : Hid (Paged tg G bs q mp n p (.slice (some ⟨gb, 0, none⟩) bs.length cb) pgs wv) := by show Paged tg _ _ _ _ _ _ _ _ _; rw [hwv]; exact HHt.out.drewN nq
                        have cv0 : wv.cell? ⟨gb, bp, none⟩ = some (.int .i64 e) := by rw [hwv]; exact cw0
                        have HOWv : Hid (Own2 145 w1 wv (.slice ar l.length cr) (fb l)) := by
                          show Own2 _ _ _ _ _
                          rw [hwv, HWT.out, drewN2]
                          exact HOW.out.drewN _
                        have HRUNd := hrun
                        rw [← hwv]
                        clear hwv d0 d1 d2 d3 d4 d5 HOW HHt HHr cw0 cb0 hrun
                        obtain ⟨d0, d1, d2, d3, d4, d5⟩ := HHv.out.core.fields.cells
                        rw [HP.out] at d2
                        have HOW := HOWv
                        clear HOWv
                        by_cases hex : e = x
                        · have HRUN : Hid (Bc G bs (x + 1) (x + 1) (bp + d) ∧ below (both G bs) (x + 1) = below (both G bs) y ++ [(x, G x + d)]) := by
                            have h9 := hbl.out.1.run HI.out (bp + d) x (by omega) hdl (by have := hbl.out.1.hi bp hmore (Nat.le_refl _); have := HE.out; omega) (fun i h1 h2 => hbl.out.1.gap i h1 h2) (by have := HGP.out; omega) (fun j hj h1 h2 => by rw [HRUNd.out j hj h1 h2]; exact hex) (fun j hj h1 => by have := hstop.out j hj h1; omega) (x + 1) (Int.le_refl _) (fun i h1 h2 => by omega)
                            rw [Nat.add_sub_cancel_left] at h9
                            exact h9
                          have HLB : Hid (l = below (both G bs) y ∧ x ≤ 10000) := ⟨hbl.out.2.1, HXL.out⟩
                          have hdb : d < 2000000000 := by omega
                          have hex2 := hex.symm
                          subst hex2
                          clear hbl
                          have hadd := fun w : World => run_float_arith (P := Tryz.prog) w .add 30 .f64 _ _ _ (nf_add (G x) d (by have := small2 x; omega))
                          rw [← HY.out] at hadd
                          have hcv := fun w : World => run_convert_int_float (P := Tryz.prog) w 3 30 .i64 .f64 ((d : Nat) : Int) (by simp [Tryz.underlying3]) Tryz.underlying30
                          have hnn : floatOfInt .f64 ((d : Nat) : Int) = nf d := rfl
                          have iw : IntKind.i64.wrap ((bp : Int) + (d : Int) - (bp : Int)) = (d : Int) := by rw [IntKind.wrap_i64]; omega
                          have ho1 := HOW.out.1.1
                          rw [fb_length] at ho1
                          obtain ⟨s, hs⟩ : ∃ s, s = nf (G x + d) := ⟨_, rfl⟩
                          rw [← hs] at hadd
                          have HSS := Lib.hid hs
                          clear hs
                          generalize hfd : nf d = fd at hadd hnn
                          clear hfd
                          go_wp2_with (at_builtin; refine wpList_append_pair wv wv.heap.size rfl (x) (s) rfl _ _ 142 145 rfl (.agg #[.int .i64 0, .float .f64 0]) 16 Tryz.underlying142 Tryz.infoStB rfl (.slice ar l.length cr) l.length (fb l) rfl ho1 rfl (by omega) (by decide) ?_; intro ao1 cp1 w2 hown' hgrow hblk)
                          have hst := HOW.out.step (o := .cells #[.int .i64 x, .float .f64 s] 145) (by rw [fb_length]; exact hown') hgrow hblk
                          rw [HSS.out] at hst
                          have hnext := BinHeld.next HLB.out.1 HLB.out.2 HRUN.out hst
                          have HN := Lib.hid hnext
                          clear hst hown' hgrow hblk ho1 hnext d0 d1 d2 d3 d4 d5 hadd hcv hnn iw
                          go_wp2
                          go_roundw
                          case rel =>
                            have e1 : x + 1 = 32 * (mp + (j : Int)) + ((k + 1 : Nat) : Int) := by have := HXE.out; omega
                            exact ⟨k + 1, bp + d, by omega, by go_num, by go_num, by rw [← e1]; exact HN.out⟩
                          case measure => simp [intOf]; omega
                        · have z3 : decide (e = x) = false := by simpa using hex
                          have z4 : (e == x) = false := by simpa using hex
                          have HRUN : Hid (Bc G bs x (e + 1) (bp + d) ∧ below (both G bs) (e + 1) = below (both G bs) y ++ [(e, d)]) := by
                            have hye := hbl.out.1.hi bp hmore (Nat.le_refl _)
                            rw [HE.out] at hye
                            have hge := hbl.out.1.gap e hye (by omega)
                            have h9 := hbl.out.1.run HI.out (bp + d) e (by omega) hdl hye (fun i h1 h2 => hbl.out.1.gap i h1 (by omega)) (by omega) HRUNd.out hstop.out x (by omega) (fun i h1 h2 => hbl.out.1.gap i (by omega) h2)
                            rw [Nat.add_sub_cancel_left, hge, Nat.zero_add] at h9
                            exact h9
                          have HLB : Hid (l = below (both G bs) y ∧ e ≤ 10000) := ⟨hbl.out.2.1, HEL.out⟩
                          have hcv := fun w : World => run_convert_int_float (P := Tryz.prog) w 3 30 .i64 .f64 ((d : Nat) : Int) (by simp [Tryz.underlying3]) Tryz.underlying30
                          have hnn : floatOfInt .f64 ((d : Nat) : Int) = nf d := rfl
                          have iw : IntKind.i64.wrap ((bp : Int) + (d : Int) - (bp : Int)) = (d : Int) := by rw [IntKind.wrap_i64]; omega
                          have ho1 := HOW.out.1.1
                          rw [fb_length] at ho1
                          obtain ⟨s, hs⟩ : ∃ s, s = nf d := ⟨_, rfl⟩
                          rw [← hs] at hnn
                          have HSS := Lib.hid hs
                          clear hs hbl
                          go_wp2_with (at_builtin; refine wpList_append_pair wv wv.heap.size rfl (e) (s) rfl _ _ 142 145 rfl (.agg #[.int .i64 0, .float .f64 0]) 16 Tryz.underlying142 Tryz.infoStB rfl (.slice ar l.length cr) l.length (fb l) rfl ho1 rfl (by omega) (by decide) ?_; intro ao1 cp1 w2 hown' hgrow hblk)
                          have hst := HOW.out.step (o := .cells #[.int .i64 e, .float .f64 s] 145) (by rw [fb_length]; exact hown') hgrow hblk
                          rw [HSS.out] at hst
                          have hnext := BinHeld.next HLB.out.1 HLB.out.2 HRUN.out hst
                          have HN := Lib.hid hnext
                          clear hst hown' hgrow hblk ho1 hnext d0 d1 d2 d3 d4 d5 hcv hnn iw
                          go_wp2
                          go_roundw
                          case rel => exact ⟨bp + d, by go_num, HN.out⟩
                          case measure => simp [intOf] <;> omega
                · have hmI : ((bs.length : Nat) : Int) ≤ (bp : Int) := by omega
                  have hmI2 : decide (((bs.length : Nat) : Int) ≤ (bp : Int)) = true := by simpa using hmI
                  have hbeyond : Hid (∀ j, (hj : j < bs.length) → bp + 0 ≤ j → x < bs[j]) := fun j hj h1 => by omega
                  have HRUN : Hid (Bc G bs (x + 1) (x + 1) (bp + 0) ∧ below (both G bs) (x + 1) = below (both G bs) y ++ [(x, G x + 0)]) := by
                    have h9 := hbl.out.1.run HI.out (bp + 0) x (by omega) hbl.out.1.le HYX.out (fun i h1 h2 => hbl.out.1.gap i h1 h2) (by have := HGP.out; omega) (fun j hj h1 h2 => by omega) (fun j hj h1 => hbeyond.out j hj h1) (x + 1) (Int.le_refl _) (fun i h1 h2 => by omega)
                    rw [Nat.add_sub_cancel_left] at h9
                    exact h9
                  have HLB : Hid (l = below (both G bs) y ∧ x ≤ 10000) := ⟨hbl.out.2.1, HXL.out⟩
                  have hadd := fun w : World => run_float_arith (P := Tryz.prog) w .add 30 .f64 _ _ _ (nf_add (G x) 0 (by have := small2 x; omega))
                  rw [← HY.out] at hadd
                  have hcv := fun w : World => run_convert_int_float (P := Tryz.prog) w 3 30 .i64 .f64 0 (by simp [Tryz.underlying3]) Tryz.underlying30
                  have hnn : floatOfInt .f64 0 = nf 0 := rfl
                  have iw : IntKind.i64.wrap ((bp : Int) - (bp : Int)) = 0 := by rw [IntKind.wrap_i64]; omega
                  have ho1 := HOW.out.1.1
                  rw [fb_length] at ho1
                  obtain ⟨s, hs⟩ : ∃ s, s = nf (G x + 0) := ⟨_, rfl⟩
                  rw [← hs] at hadd
                  have HSS := Lib.hid hs
                  clear hs hbl
                  generalize hfd : nf 0 = fd at hadd hnn
                  clear hfd
                  go_wp2_with (at_builtin; refine wpList_append_pair wr wr.heap.size rfl (x) (s) rfl _ _ 142 145 rfl (.agg #[.int .i64 0, .float .f64 0]) 16 Tryz.underlying142 Tryz.infoStB rfl (.slice ar l.length cr) l.length (fb l) rfl ho1 rfl (by omega) (by decide) ?_; intro ao1 cp1 w2 hown' hgrow hblk)
                  have hst := HOW.out.step (o := .cells #[.int .i64 x, .float .f64 s] 145) (by rw [fb_length]; exact hown') hgrow hblk
                  rw [HSS.out] at hst
                  have hnext := BinHeld.next HLB.out.1 HLB.out.2 HRUN.out hst
                  have HN := Lib.hid hnext
                  clear hst hown' hgrow hblk ho1 hnext d0 d1 d2 d3 d4 d5 hadd hcv hnn iw
                  go_wp2
                  go_roundw
                  case rel =>
                    have e1 : x + 1 = 32 * (mp + (j : Int)) + ((k + 1 : Nat) : Int) := by have := HXE.out; omega
                    exact ⟨k + 1, bp, by omega, by go_num, rfl, by rw [← e1]; exact HN.out⟩
                  case measure => simp [intOf]; omega
          · obtain rfl : k = 32 := by omega
            clear hk32 hk hbl
            go_wp2
            go_roundw
            case rel =>
              have e1 : 32 * (mp + ((j + 1 : Nat) : Int)) = 32 * (mp + (j : Int)) + ((32 : Nat) : Int) := by omega
              exact ⟨j + 1, bp, by omega, by go_num, rfl, by rw [e1]; exact HHELD.out⟩
            case measure => simp [intOf]; omega
    · obtain rfl : j = n := by omega
      obtain ⟨X, hX⟩ : ∃ X, X = max (32 * (mp + (j : Int))) 10001 := ⟨_, rfl⟩
      have hnx : Hid (BinHeld G bs X bp w1 wr (.slice ar l.length cr)) := HHELD.out.skip (by omega) (fun i h1 h2 => HH.out.high h1)
      have HX1 : Hid (10001 ≤ X) := by show _ ≤ _; omega
      clear hlt hj hX hbl
      go_wp2
      clear d0 d1 d2 d3 d4 d5 HHr HOW hll
      go_loopw [3, 4] (fun v b wr2 => BinP3 G bs X w1 wr2 v b) (fun _ b _ => bs.length - (intOf b).toNat)
      case atStart => exact ⟨bp, rfl, hnx.out⟩
      case round =>
        obtain ⟨bp, rfl, hheld⟩ := hrel
        obtain ⟨y, l, ar, cr, rfl, hown, hbl, hll⟩ := hheld
        have HHr : Hid (Paged tg G bs q mp j p (.slice ao bs.length cb) pgs wr) := HH.out.grown (grown_of_below hown.2)
        obtain ⟨d0, d1, d2, d3, d4, d5⟩ := HHr.out.core.fields.cells
        rw [HP.out] at d2
        have HOW := Lib.hid hown
        clear hown
        have hble := hbl.out.1.le
        by_cases hmore : bp < bs.length
        · obtain ⟨gb, hao, hbc⟩ := cellsI HHr.out.core.buf (by omega)
          subst hao
          have cb0 := hbc bp hmore
          have hmI3 : (bp : Int) < ((bs.length : Nat) : Int) := by omega
          have i4 : IntKind.i64.wrap ((bp : Int) + 1) = (bp : Int) + 1 := by rw [IntKind.wrap_i64]; omega
          have HEL0 := (HI.out bs[bp] (List.getElem_mem hmore)).2
          obtain ⟨e, he⟩ : ∃ e, e = bs[bp] := ⟨_, rfl⟩
          have HE : Hid (bs[bp] = e) := he.symm
          rw [← he] at cb0 HEL0
          have HEL : Hid (e ≤ 10000) := HEL0
          clear he hbc HEL0
          go_wp2
          go_loopw [4] (fun i w4 => RunP bs e bp wr w4 i) (fun i _ => bs.length - (intOf i).toNat)
          case atStart => exact ⟨1, 0, by omega, by omega, by go_num, (fun j hj h1 h2 => by obtain rfl : j = bp := (by omega); exact HE.out), rfl⟩
          case round =>
            obtain ⟨d, t, hd0, hdl, rfl, hrun, rfl⟩ := hrel
            obtain ⟨wt, hwt⟩ : ∃ wt, wt = wr.drewN t := ⟨_, rfl⟩
            have HWT := Lib.hid hwt
            have HHt : Hid (Paged tg G bs q mp j p (.slice (some ⟨gb, 0, none⟩) bs.length cb) pgs wt) := by show Paged tg _ _ _ _ _ _ _ _ _; rw [hwt]; exact HHr.out.drewN t
            have cw0 : wt.cell? ⟨gb, bp, none⟩ = some (.int .i64 e) := by rw [hwt]; exact cb0
            rw [← hwt]
            clear hwt d0 d1 d2 d3 d4 d5
            obtain ⟨d0, d1, d2, d3, d4, d5⟩ := HHt.out.core.fields.cells
            rw [HP.out] at d2
            by_cases hlt : bp + d < bs.length
            · have q1 : decide ((bp : Int) + (d : Int) < ((bs.length : Nat) : Int)) = true := by simp; omega
              have cw1 : wt.cell? ⟨gb, bp + d, none⟩ = some (.int .i64 bs[bp + d]) := by
                obtain ⟨g9, e9, h9⟩ := cellsI HHt.out.core.buf (by omega)
                cases e9
                exact h9 (bp + d) hlt
              have iz : (((bp + d : Nat) : Int)) = (bp : Int) + (d : Int) := by omega
              have hbI : (bp : Int) < ((bs.length : Nat) : Int) := by omega
              have hbdI : (bp : Int) + (d : Int) < ((bs.length : Nat) : Int) := by omega
              have hto : ((bp : Int) + (d : Int)).toNat = bp + d := by omega
              have i7 : IntKind.i64.wrap ((bp : Int) + (d : Int) + 1) = (bp : Int) + (d : Int) + 1 := by rw [IntKind.wrap_i64]; omega
              by_cases heq : bs[bp + d] = e
              · have hrun2 : Hid (∀ j, (hj : j < bs.length) → bp ≤ j → j < bp + (d + 1) → bs[j] = e) := fun j hj h1 h2 => by
                  by_cases c : j < bp + d
                  · exact hrun.out j hj h1 c
                  · obtain rfl : j = bp + d := by omega
                    exact heq
                rw [heq] at cw1
                clear heq iz
                go_wp2
                go_quiet (fail)
                go_wp2
                go_roundw
                case rel => exact ⟨d + 1, t + nq, by omega, by omega, by go_num, hrun2, by rw [HWT.out, drewN2]⟩
                case measure => simp [intOf] <;> omega
              · have hstop : Hid (∀ j, (hj : j < bs.length) → bp + d ≤ j → e < bs[j]) := fun j hj h1 => by
                  have h2 := HST.out (bp + d) j hlt hj h1
                  have h3 := HST.out bp (bp + d) (by omega) hlt (by omega)
                  have h4 := HE.out
                  rw [h4] at h3
                  omega
                obtain ⟨z, hz⟩ : ∃ z, z = bs[bp + d] := ⟨_, rfl⟩
                rw [← hz] at cw1 heq
                have z1 : decide (z = e) = false := by simpa using heq
                have z2 : (z == e) = false := by simpa using heq
                clear hz iz
                go_wp2
                go_quiet (fail)
                obtain ⟨wv, hwv⟩ : ∃ wv, wv = wt.drewN nq := ⟨_, rfl⟩
                have HHv : Hid (Paged tg G bs q mp j p (.slice (some ⟨gb, 0, none⟩) bs.length cb) pgs wv) := by show Paged tg _ _ _ _ _ _ _ _ _; rw [hwv]; exact HHt.out.drewN nq
                have cv0 : wv.cell? ⟨gb, bp, none⟩ = some (.int .i64 e) := by rw [hwv]; exact cw0
                have HOWv : Hid (Own2 145 w1 wv (.slice ar l.length cr) (fb l)) := by
                  show Own2 _ _ _ _ _
                  rw [hwv, HWT.out, drewN2]
                  exact HOW.out.drewN _
                have HRUNd := hrun
                rw [← hwv]
                clear hwv d0 d1 d2 d3 d4 d5 HOW HHt HHr cw0 cb0 hrun
                obtain ⟨d0, d1, d2, d3, d4, d5⟩ := HHv.out.core.fields.cells
                rw [HP.out] at d2
                have HOW := HOWv
                clear HOWv
                have HRUN : Hid (Bc G bs X (e + 1) (bp + d) ∧ below (both G bs) (e + 1) = below (both G bs) y ++ [(e, d)]) := by
                  have hye := hbl.out.1.hi bp hmore (Nat.le_refl _)
                  rw [HE.out] at hye
                  have hXe : e < X := by have := HEL.out; have := HX1.out; omega
                  have hge := hbl.out.1.gap e hye hXe
                  have h9 := hbl.out.1.run HI.out (bp + d) e (by omega) hdl hye (fun i h1 h2 => hbl.out.1.gap i h1 (by omega)) (by omega) HRUNd.out hstop.out X (by omega) (fun i h1 h2 => hbl.out.1.gap i (by omega) h2)
                  rw [Nat.add_sub_cancel_left, hge, Nat.zero_add] at h9
                  exact h9
                have HLB : Hid (l = below (both G bs) y ∧ e ≤ 10000) := ⟨hbl.out.2.1, HEL.out⟩
                have hcv := fun w : World => run_convert_int_float (P := Tryz.prog) w 3 30 .i64 .f64 ((d : Nat) : Int) (by simp [Tryz.underlying3]) Tryz.underlying30
                have hnn : floatOfInt .f64 ((d : Nat) : Int) = nf d := rfl
                have iw : IntKind.i64.wrap ((bp : Int) + (d : Int) - (bp : Int)) = (d : Int) := by rw [IntKind.wrap_i64]; omega
                have ho1 := HOW.out.1.1
                rw [fb_length] at ho1
                obtain ⟨s, hs⟩ : ∃ s, s = nf d := ⟨_, rfl⟩
                rw [← hs] at hnn
                have HSS := Lib.hid hs
                clear hs hbl
                go_wp2_with (at_builtin; refine wpList_append_pair (wv.alloc (.cells #[.int .i64 e, .float .f64 s] 145)) (wv.heap.size + 1) (by simp) e s rfl _ _ 142 145 rfl (.agg #[.int .i64 0, .float .f64 0]) 16 Tryz.underlying142 Tryz.infoStB rfl (.slice ar l.length cr) l.length (fb l) rfl (ho1.alloc _) rfl (by omega) (by decide) ?_; intro ao1 cp1 w2 hown' hgrow hblk)
                have hst := HOW.out.step2 (o1 := .cells #[.int .i64 e, .float .f64 s] 145) (o2 := .cells #[.int .i64 e, .float .f64 s] 145) (by rw [fb_length]; exact hown') hgrow hblk
                rw [HSS.out] at hst
                have hnext := BinHeld.next HLB.out.1 HLB.out.2 HRUN.out hst
                have HN := Lib.hid hnext
                clear hst hown' hgrow hblk ho1 hnext d0 d1 d2 d3 d4 d5 hcv hnn iw
                go_wp2
                go_roundw
                case rel => exact ⟨bp + d, by go_num, HN.out⟩
                case measure => simp [intOf] <;> omega
            · have q1 : decide ((bp : Int) + (d : Int) < ((bs.length : Nat) : Int)) = false := by simp; omega
              have hstop : Hid (∀ j, (hj : j < bs.length) → bp + d ≤ j → e < bs[j]) := fun j hj h1 => by omega
              have hto : ((bp : Int) + (d : Int)).toNat = bp + d := by omega
              have hbI : (bp : Int) < ((bs.length : Nat) : Int) := by omega
              go_wp2
              go_quiet (fail)
              obtain ⟨wv, hwv⟩ : ∃ wv, wv = wt.drewN nq := ⟨_, rfl⟩
              have HHv : Hid (Paged tg G bs q mp j p (.slice (some ⟨gb, 0, none⟩) bs.length cb) pgs wv) := by show Paged tg _ _ _ _ _ _ _ _ _; rw [hwv]; exact HHt.out.drewN nq
              have cv0 : wv.cell? ⟨gb, bp, none⟩ = some (.int .i64 e) := by rw [hwv]; exact cw0
              have HOWv : Hid (Own2 145 w1 wv (.slice ar l.length cr) (fb l)) := by
                show Own2 _ _ _ _ _
                rw [hwv, HWT.out, drewN2]
                exact HOW.out.drewN _
              have HRUNd := hrun
              rw [← hwv]
              clear hwv d0 d1 d2 d3 d4 d5 HOW HHt HHr cw0 cb0 hrun
              obtain ⟨d0, d1, d2, d3, d4, d5⟩ := HHv.out.core.fields.cells
              rw [HP.out] at d2
              have HOW := HOWv
              clear HOWv
              have HRUN : Hid (Bc G bs X (e + 1) (bp + d) ∧ below (both G bs) (e + 1) = below (both G bs) y ++ [(e, d)]) := by
                have hye := hbl.out.1.hi bp hmore (Nat.le_refl _)
                rw [HE.out] at hye
                have hXe : e < X := by have := HEL.out; have := HX1.out; omega
                have hge := hbl.out.1.gap e hye hXe
                have h9 := hbl.out.1.run HI.out (bp + d) e (by omega) hdl hye (fun i h1 h2 => hbl.out.1.gap i h1 (by omega)) (by omega) HRUNd.out hstop.out X (by omega) (fun i h1 h2 => hbl.out.1.gap i (by omega) h2)
                rw [Nat.add_sub_cancel_left, hge, Nat.zero_add] at h9
                exact h9
              have HLB : Hid (l = below (both G bs) y ∧ e ≤ 10000) := ⟨hbl.out.2.1, HEL.out⟩
              have hcv := fun w : World => run_convert_int_float (P := Tryz.prog) w 3 30 .i64 .f64 ((d : Nat) : Int) (by simp [Tryz.underlying3]) Tryz.underlying30
              have hnn : floatOfInt .f64 ((d : Nat) : Int) = nf d := rfl
              have iw : IntKind.i64.wrap ((bp : Int) + (d : Int) - (bp : Int)) = (d : Int) := by rw [IntKind.wrap_i64]; omega
              have ho1 := HOW.out.1.1
              rw [fb_length] at ho1
              obtain ⟨s, hs⟩ : ∃ s, s = nf d := ⟨_, rfl⟩
              rw [← hs] at hnn
              have HSS := Lib.hid hs
              clear hs hbl
              go_wp2_with (at_builtin; refine wpList_append_pair (wv.alloc (.cells #[.int .i64 e, .float .f64 s] 145)) (wv.heap.size + 1) (by simp) e s rfl _ _ 142 145 rfl (.agg #[.int .i64 0, .float .f64 0]) 16 Tryz.underlying142 Tryz.infoStB rfl (.slice ar l.length cr) l.length (fb l) rfl (ho1.alloc _) rfl (by omega) (by decide) ?_; intro ao1 cp1 w2 hown' hgrow hblk)
              have hst := HOW.out.step2 (o1 := .cells #[.int .i64 e, .float .f64 s] 145) (o2 := .cells #[.int .i64 e, .float .f64 s] 145) (by rw [fb_length]; exact hown') hgrow hblk
              rw [HSS.out] at hst
              have hnext := BinHeld.next HLB.out.1 HLB.out.2 HRUN.out hst
              have HN := Lib.hid hnext
              clear hst hown' hgrow hblk ho1 hnext d0 d1 d2 d3 d4 d5 hcv hnn iw
              go_wp2
              go_roundw
              case rel => exact ⟨bp + d, by go_num, HN.out⟩
              case measure => simp [intOf] <;> omega
        · have hmI : ¬ (bp : Int) < ((bs.length : Nat) : Int) := by omega
          have hfin : l = K := by
            obtain ⟨hc, hl, hy1⟩ := hbl.out
            rw [hl, ← HBOTH.out]
            refine (below_same hc.y0 hy1 (fun i h1 h2 => ?_)).symm
            show G i + cntI bs i = 0
            rw [hc.gap i h1 (by have := HX1.out; omega), cntI_none]
            intro hmem
            obtain ⟨t, ht, rfl⟩ := List.getElem_of_mem hmem
            have := hc.lo t ht (by omega)
            omega
          have HFN := Lib.hid hfin
          clear hfin hbl hmore
          go_wp2
          go_ret
          have h9 := HOW.out
          refine ⟨bs, ar, cr, by rw [← HFN.out, fb_length]; rfl, HPERM.out, HHr.out, HFR.out.trans (Fr.of_below h9.2) (fun _ _ h => h) (fun i hi h => absurd h (Nat.not_le.2 (Nat.lt_of_lt_of_le hi HFR.out.size))), ?_, ?_⟩
          · rw [← HFN.out, fb_length]
            have h10 := h9.1.1
            rw [fb_length] at h10
            exact h10
          · rw [← HFN.out, fb_length]
            exact fun k hk => Nat.le_trans HFR.out.size (h9.1.2 k hk)
end Go.Proofs.YtnmbjalojgccmaaGreat
end
