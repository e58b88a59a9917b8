/-
  The store with pages: ForEach. (Printed by gen_eachp.py.)
-/
import Derived.Test.YtnmbjalojgccmaaGreatMD
import Derived.Test.YtnmbjalojgccmaaGreatTE
section
namespace Go.Proofs.YtnmbjalojgccmaaGreat
open Go.RowKit
variable {tg : Int}

/-- What the walk holds: the bins below y are told. -/
def EachHeld (G : Int → Nat) (bs : List Int) (J : Bins → (Nat → Prop) → World → Prop) (T : Nat → Prop) (x : Int) (bp : Nat) (w wr : World) : Prop :=
  ∃ (y : Int) (l : Bins) (T1 : Nat → Prop), J l T1 wr ∧ Fr T w wr ∧ (∀ b, T1 b → T b ∨ w.heap.size ≤ b) ∧ Hid (Bc G bs x y bp ∧ l = below (both G bs) y ∧ y ≤ 10001)

def EachP1 (G : Int → Nat) (bs : List Int) (J : Bins → (Nat → Prop) → World → Prop) (T : Nat → Prop) (mp : Int) (n : Nat) (w wr : World) (b i : Value) : Prop :=
  ∃ (j bp : Nat), j ≤ n ∧ i = .int .i64 (j : Int) ∧ b = .int .i64 (bp : Int) ∧ EachHeld G bs J T (32 * (mp + (j : Int))) bp w wr
def EachP2 (G : Int → Nat) (bs : List Int) (J : Bins → (Nat → Prop) → World → Prop) (T : Nat → Prop) (x : Int) (w wr : World) (b i : Value) : Prop :=
  ∃ (k bp : Nat), k ≤ 32 ∧ i = .int .i64 (k : Int) ∧ b = .int .i64 (bp : Int) ∧ EachHeld G bs J T (32 * x + (k : Int)) bp w wr
def EachP3 (G : Int → Nat) (bs : List Int) (J : Bins → (Nat → Prop) → World → Prop) (T : Nat → Prop) (x : Int) (w wr : World) (b : Value) : Prop :=
  ∃ (bp : Nat), b = .int .i64 (bp : Int) ∧ EachHeld G bs J T x bp w wr

theorem EachHeld.next {G : Int → Nat} {bs : List Int} {J : Bins → (Nat → Prop) → World → Prop} {T T1 T2 : Nat → Prop} {z y e : Int} {m d : Nat} {w wv w2 : World} {l : Bins} (hl : l = below (both G bs) y) (he : e ≤ 10000)
   (hb : Bc G bs z (e + 1) m ∧ below (both G bs) (e + 1) = below (both G bs) y ++ [(e, d)]) (hO : J l T1 wv ∧ Fr T w wv ∧ ∀ b, T1 b → T b ∨ w.heap.size ≤ b)
   (hj2 : J (l ++ [(e, d)]) T2 w2) (hf2 : Fr T1 wv w2) (hT2 : ∀ b, T2 b → T1 b ∨ wv.heap.size ≤ b) : EachHeld G bs J T z m w w2 := by
  have hs := hO.2.1.size
  refine ⟨e + 1, _, T2, hj2, hO.2.1.trans hf2 (fun _ _ h => h) (fun i hi h => (hO.2.2 i h).elim id (fun h2 => by omega)), fun b hb2 => ?_, ⟨hb.1, by rw [hb.2, hl], by omega⟩⟩
  rcases hT2 b hb2 with h | h
  · exact hO.2.2 b h
  · right; omega
theorem EachHeld.skip {G : Int → Nat} {bs : List Int} {J : Bins → (Nat → Prop) → World → Prop} {T : Nat → Prop} {x z : Int} {bp : Nat} {w wr : World} (h : EachHeld G bs J T x bp w wr) (hxz : x ≤ z) (hz : ∀ i, x ≤ i → i < z → G i = 0) : EachHeld G bs J T z bp w wr := by
  obtain ⟨y, l, T1, h1, h2, h3, h4⟩ := h
  exact ⟨y, l, T1, h1, h2, h3, ⟨h4.out.1.skip hxz hz, h4.out.2⟩⟩
/-- Behind ForEach: the buffer is sorted, all bins are told. -/
def EachedP (tg : Int) (G : Int → Nat) (bs0 : List Int) (q : Int → Option (Nat × Nat)) (mp : Int) (n p : Nat) (bufv pgs : Value) (K : Bins) (J : Bins → (Nat → Prop) → World → Prop) (T : Nat → Prop) (w : World) (e : Ending) (w' : World) : Prop :=
  ∃ bs' T', e = .returned (.tuple #[]) ∧ bs'.Perm bs0 ∧ Paged tg G bs' q mp n p bufv pgs w' ∧ J K T' w' ∧ Fr (fun k => bufv.ownBlock = some k ∨ T k) w w' ∧ (∀ b, T' b → T b ∨ w.heap.size ≤ b)
theorem below_pre (F : Int → Nat) {y : Int} (h : y ≤ 10001) : below F y <+: below F 10001 := nz_prefix F (-10000) _ _ (by omega)

set_option maxRecDepth 100000 in
set_option maxHeartbeats 4000000 in
theorem eachP_any (G : Int → Nat) (bs0 : List Int) (q : Int → Option (Nat × Nat)) (mp : Int) (n p : Nat) (bufv pgs : Value) (K : Bins) (w : World) (h0 : Paged tg G bs0 q mp n p bufv pgs w)
   (hI0 : InI bs0) (hz : ∀ i, i < -10000 ∨ 10000 < i → G i = 0) (hT0 : tot2 G + bs0.length < 1000000000) (hK1 : Asc K) (hK2 : Pos K) (hK3 : InR K) (hK4 : cntB K = both G bs0)
   {F : FuncId} {bx : Nat} {J : Bins → (Nat → Prop) → World → Prop} {T : Nat → Prop} (hC : Callback F bx K J) (hJ : J [] T w) (hTD : ∀ k, PFoot q p bufv pgs k → ¬ T k) :
    Calls Tryz.prog 303 #[.pointer (some ⟨p, 0, none⟩), .func (.func F) #[] #[.pointer (some ⟨bx, 0, none⟩)]] w fun e w' => EachedP tg G bs0 q mp n p bufv pgs K J T w e w' := by
  have hsort := sortBuf_any G bs0 q mp n p bufv pgs w h0 (by omega)
  have HI0 := Lib.hid hI0
  have HZ0 := Lib.hid hz
  have HT0 := Lib.hid hT0
  have HKK : Hid (Asc K ∧ Pos K ∧ InR K ∧ cntB K = both G bs0) := ⟨hK1, hK2, hK3, hK4⟩
  have HC := Lib.hid hC
  have HJ0 := Lib.hid hJ
  have HTD := Lib.hid hTD
  have hE := hC.enter
  clear h0 hI0 hz hT0 hK1 hK2 hK3 hK4 hC hJ hTD
  go_enter Tryz.func303, Tryz.ntmps303
  go_wp2_with fail
  refine hsort.mono ?_
  clear hsort
  rintro e w1 ⟨bs, rfl, hperm, hs, h, hfr⟩
  have hI : InI bs := fun b hb => HI0.out b (hperm.mem_iff.1 hb)
  have hz := HZ0.out
  have hT : tot2 G + bs.length < 1000000000 := by rw [hperm.length_eq]; exact HT0.out
  have HPERM := Lib.hid hperm
  have HFR := Lib.hid hfr
  have HJ1 : Hid (J [] T w1) := HC.out.fr _ _ _ _ _ HJ0.out hfr (fun b hb h => HTD.out b (.inr (.inl h)) hb)
  have HBOTH : Hid (below (both G bs) 10001 = K) := by
    have h1 : both G bs = both G bs0 := by
      show (fun i => G i + cntI bs i) = fun i => G i + cntI bs0 i
      rw [cntI_perm hperm]
    show _ = _
    rw [h1, ← HKK.out.2.2.2]
    exact below_all HKK.out.1 HKK.out.2.1 HKK.out.2.2.1
  clear hperm hfr HI0 HZ0 HT0 HKK
  obtain ⟨ao, n1, cb, rfl⟩ := owns_slice h.core.buf
  obtain rfl := owns_len h.core.buf
  obtain ⟨aq, n2, cq, hpgs⟩ := owns_slice h.core.row
  have hnq : n2 = n := by have h2 := h.core.row; rw [hpgs] at h2; exact owns_len h2
  subst hnq
  obtain ⟨n, hn2⟩ : ∃ n, n = n2 := ⟨_, rfl⟩
  subst hn2
  obtain ⟨d0, d1, d2, d3, d4, d5⟩ := h.core.fields.cells
  rw [hpgs] at d2
  have HBD : Hid ((n = 0 ∧ mp = 9223372036854775807) ∨ (0 < n ∧ -330 ≤ mp ∧ mp + (n : Int) ≤ 330)) := by rcases h.bd with ⟨h1, h2, _⟩ | h2; exact .inl ⟨h1, h2⟩; exact .inr h2
  have hnb : n < 1000000000 := by rcases h.bd with ⟨h1, h2, _⟩ | h2 <;> omega
  have hbl0 : bs.length < 1000000000 := by omega
  have HST : Hid (∀ i j, (hi : i < bs.length) → (hj : j < bs.length) → i ≤ j → bs[i] ≤ bs[j]) := fun i j hi hj hij => by
    rcases Nat.lt_or_eq_of_le hij with h | h
    · exact List.pairwise_iff_getElem.1 hs i j hi hj h
    · subst h; exact Int.le_refl _
  have HSM : Hid (∀ x, G x < 1000000000) := fun x => by
    by_cases c : -10000 ≤ x ∧ x ≤ 10000
    · have := one_le_tot G x c.1 c.2; omega
    · rw [hz x (by omega)]; omega
  have HH := Lib.hid h
  have HP := Lib.hid hpgs
  have HZ := Lib.hid hz
  have HI := Lib.hid hI
  clear h hz hT hI hpgs hs
  go_wp2
  go_loopw [4, 19] (fun b i wr => EachP1 G bs J T mp n w1 wr b i) (fun _ i _ => n - (intOf i).toNat)
  case atStart =>
    exact ⟨0, 0, Nat.zero_le _, rfl, rfl, -10000, [], T, HJ1.out, Fr.refl _ _, fun b hb => .inl hb, ⟨⟨Nat.zero_le _, fun j hj h => by omega, fun j hj _ => (HI.out bs[j] (List.getElem_mem hj)).1, fun i h1 h2 => HH.out.low (by omega), .inr rfl, Int.le_refl _⟩, rfl, by omega⟩⟩
  case round =>
    obtain ⟨j, bp, hj, rfl, rfl, hheld⟩ := hrel
    have HHELD := Lib.hid hheld
    obtain ⟨y, l, T1, hj1, hfr1, hT1, hbl⟩ := hheld
    have HHr : Hid (Paged tg G bs q mp n p (.slice ao bs.length cb) pgs wr) := HH.out.fr hfr1 HTD.out
    obtain ⟨d0, d1, d2, d3, d4, d5⟩ := HHr.out.core.fields.cells
    rw [HP.out] at d2
    have HOW := Lib.hid (And.intro hj1 (And.intro hfr1 hT1))
    clear hj1 hfr1 hT1
    by_cases hlt : j < n
    · have hbd : -330 ≤ mp ∧ mp + (n : Int) ≤ 330 := by have := HBD.out; omega
      obtain ⟨g, c0, hg2, hgc, hcell⟩ := HHr.out.rowAt (by omega)
      have HP2 := HP
      rw [HP.out] at hg2
      cases hg2
      have hc := hcell j hlt
      have hltI : (j : Int) < (n : Int) := by omega
      have i1 : IntKind.i64.wrap ((j : Int) + 1) = (j : Int) + 1 := by rw [IntKind.wrap_i64]; omega
      have i2 : IntKind.i64.wrap (mp + (j : Int)) = mp + (j : Int) := by rw [IntKind.wrap_i64]; omega
      cases hq : q (mp + (j : Int)) with
      | none =>
        rw [hq] at hc
        replace hc : wr.cell? ⟨g, j, none⟩ = some (.slice none 0 0) := hc
        have hnx : Hid (EachHeld G bs J T (32 * (mp + ((j + 1 : Nat) : Int))) bp w1 wr) := HHELD.out.skip (by omega) (fun i h1 h2 => HH.out.hole hq h1 (by omega))
        clear hcell hq hbl
        go_wp2
        go_loopw [4, 26] (fun b i wr2 => b = .int .i64 (bp : Int) ∧ i = .int .i64 0 ∧ wr2 = wr) (fun _ _ _ => 0)
        case atStart => exact ⟨rfl, rfl, rfl⟩
        case round =>
          obtain ⟨rfl, rfl, rfl⟩ := hrel
          go_wp2
          go_roundw
          case rel => exact ⟨j + 1, bp, by omega, by go_num, rfl, hnx.out⟩
          case measure => simp [intOf]; omega
      | some z =>
        obtain ⟨b, cp⟩ := z
        rw [hq] at hc
        replace hc : wr.cell? ⟨g, j, none⟩ = some (.slice (some ⟨b, 0, none⟩) 32 cp) := hc
        have HQ := Lib.hid hq
        clear hcell hq hbl
        go_wp2
        clear d0 d1 d2 d3 d4 d5 HHr HOW
        go_loopw [4, 26] (fun b i wr2 => EachP2 G bs J T (mp + (j : Int)) w1 wr2 b i) (fun _ i _ => 32 - (intOf i).toNat)
        case atStart => exact ⟨0, bp, by omega, rfl, rfl, by rw [show 32 * (mp + (j : Int)) + ((0 : Nat) : Int) = 32 * (mp + (j : Int)) from by omega]; exact HHELD.out⟩
        case round =>
          clear hc
          obtain ⟨k, bp, hk, rfl, rfl, hheld⟩ := hrel
          have HHELD := Lib.hid hheld
          obtain ⟨y, l, T1, hj1, hfr1, hT1, hbl⟩ := hheld
          have HHr : Hid (Paged tg G bs q mp n p (.slice ao bs.length cb) pgs wr) := HH.out.fr hfr1 HTD.out
          obtain ⟨d0, d1, d2, d3, d4, d5⟩ := HHr.out.core.fields.cells
          rw [HP.out] at d2
          have HOW := Lib.hid (And.intro hj1 (And.intro hfr1 hT1))
          clear hj1 hfr1 hT1
          by_cases hk32 : k < 32
          · have hkI : (k : Int) < 32 := by omega
            have i3 : IntKind.i64.wrap ((k : Int) + 1) = (k : Int) + 1 := by rw [IntKind.wrap_i64]; omega
            have cl := (HHr.out.core.page _ _ _ HQ.out).cell k hk32
            have HIX := index_any p (mp + (j : Int)) (k : Int) wr d4 (by omega) (by omega) (by omega) (by omega)
            obtain ⟨x, hx⟩ : ∃ x, x = 32 * (mp + (j : Int)) + (k : Int) := ⟨_, rfl⟩
            have HXE := Lib.hid hx
            rw [← hx] at cl HIX hbl HHELD
            clear hx
            have hord := nf_order (G x) 0 (by have := HSM.out x; omega) (by decide)
            rw [nf_zero] at hord
            obtain ⟨fy, hy⟩ : ∃ fy, fy = nf (G x) := ⟨_, rfl⟩
            rw [← hy] at cl hord
            have HY := Lib.hid hy
            clear hy
            by_cases hg0 : G x = 0
            · have heqz : (FloatKind.f64.format.order fy 0 == some .eq) = true := by rw [hord, hg0]; rfl
              have hnx : Hid (EachHeld G bs J T (x + 1) bp w1 wr) := HHELD.out.skip (by omega) (fun i h1 h2 => by rw [show i = x from by omega]; exact hg0)
              clear hord hbl HIX
              go_wp2
              go_roundw
              case rel =>
                have e1 : x + 1 = 32 * (mp + (j : Int)) + ((k + 1 : Nat) : Int) := by have := HXE.out; omega
                exact ⟨k + 1, bp, by omega, by go_num, rfl, by rw [← e1]; exact hnx.out⟩
              case measure => simp [intOf]; omega
            · have heqz : (FloatKind.f64.format.order fy 0 == some .eq) = false := by rw [hord, Nat.compare_eq_gt.2 (by omega)]; rfl
              have HGP : Hid (0 < G x) := by show 0 < _; omega
              have HXL : Hid (x ≤ 10000) := by
                show _ ≤ _
                by_cases c : x ≤ 10000
                · exact c
                · exact absurd (HZ.out x (.inr (by omega))) hg0
              have HXLo : Hid (-10000 ≤ x) := by
                show _ ≤ _
                by_cases c : -10000 ≤ x
                · exact c
                · exact absurd (HZ.out x (.inl (by omega))) hg0
              have small2 := HSM.out
              clear hord hg0 hbl
              go_wp2_with (go_at_call 316; (with_reducible refine HIX.mono ?_); rintro e w' ⟨rfl, rfl⟩)
              clear HIX HOW HHr d0 d1 d2 d3 d4 d5 cl
              go_loopw [4, 10] (fun b s wr2 => EachP3 G bs J T x w1 wr2 b) (fun b _ _ => bs.length - (intOf b).toNat)
              case atStart => exact ⟨bp, rfl, HHELD.out⟩
              case round =>
                obtain ⟨bp, rfl, hheld⟩ := hrel
                obtain ⟨y, l, T1, hj1, hfr1, hT1, hbl⟩ := hheld
                have HHr : Hid (Paged tg G bs q mp n p (.slice ao bs.length cb) pgs wr) := HH.out.fr hfr1 HTD.out
                obtain ⟨d0, d1, d2, d3, d4, d5⟩ := HHr.out.core.fields.cells
                rw [HP.out] at d2
                have HOW := Lib.hid (And.intro hj1 (And.intro hfr1 hT1))
                clear hj1 hfr1 hT1
                have hble := hbl.out.1.le
                have HYX : Hid (y ≤ x) := by
                  show _ ≤ _
                  have := HXLo.out
                  rcases hbl.out.1.yx with c | c <;> omega
                by_cases hmore : bp < bs.length
                · obtain ⟨gb, hao, hbc⟩ := cellsI HHr.out.core.buf (by omega)
                  subst hao
                  have cb0 := hbc bp hmore
                  have hmI : ¬ ((bs.length : Nat) : Int) ≤ (bp : Int) := by omega
                  have hmI2 : decide (((bs.length : Nat) : Int) ≤ (bp : Int)) = false := by simpa using hmI
                  have hmI3 : (bp : Int) < ((bs.length : Nat) : Int) := by omega
                  have i4 : IntKind.i64.wrap ((bp : Int) + 1) = (bp : Int) + 1 := by rw [IntKind.wrap_i64]; omega
                  have HEL0 := (HI.out bs[bp] (List.getElem_mem hmore)).2
                  obtain ⟨e, he⟩ : ∃ e, e = bs[bp] := ⟨_, rfl⟩
                  have HE : Hid (bs[bp] = e) := he.symm
                  rw [← he] at cb0 HEL0
                  have HEL : Hid (e ≤ 10000) := HEL0
                  clear he hbc HEL0
                  by_cases hgt : x < e
                  · have hbeyond : Hid (∀ j, (hj : j < bs.length) → bp + 0 ≤ j → x < bs[j]) := fun j hj h1 => by have := HST.out bp j hmore hj (by omega); have := HE.out; omega
                    have HRUN : Hid (Bc G bs (x + 1) (x + 1) (bp + 0) ∧ below (both G bs) (x + 1) = below (both G bs) y ++ [(x, G x + 0)]) := by
                      have h9 := hbl.out.1.run HI.out (bp + 0) x (by omega) hbl.out.1.le HYX.out (fun i h1 h2 => hbl.out.1.gap i h1 h2) (by have := HGP.out; omega) (fun j hj h1 h2 => by omega) (fun j hj h1 => hbeyond.out j hj h1) (x + 1) (Int.le_refl _) (fun i h1 h2 => by omega)
                      rw [Nat.add_sub_cancel_left] at h9
                      exact h9
                    have HLB : Hid (l = below (both G bs) y ∧ x ≤ 10000) := ⟨hbl.out.2.1, HXL.out⟩
                    have hadd := fun w : World => run_float_arith (P := Tryz.prog) w .add 30 .f64 _ _ _ (nf_add (G x) 0 (by have := small2 x; omega))
                    rw [← HY.out] at hadd
                    have hcv := fun w : World => run_convert_int_float (P := Tryz.prog) w 3 30 .i64 .f64 0 (by simp [Tryz.underlying3]) Tryz.underlying30
                    have hnn : floatOfInt .f64 0 = nf 0 := rfl
                    have iw : IntKind.i64.wrap ((bp : Int) - (bp : Int)) = 0 := by rw [IntKind.wrap_i64]; omega
                    obtain ⟨s, hs⟩ : ∃ s, s = nf (G x + 0) := ⟨_, rfl⟩
                    rw [← hs] at hadd
                    have HSS := Lib.hid hs
                    clear hs hbl
                    generalize hfd : nf 0 = fd at hadd hnn
                    clear hfd
                    have hcall := fun d9 hp9 => HC.out.call l x d9 T1 wr HOW.out.1 hp9
                    have HCC := hcall (G x + 0) (by rw [HLB.out.1, ← HRUN.out.2, ← HBOTH.out]; exact below_pre _ (by have := HLB.out.2; omega))
                    rw [← HSS.out] at HCC
                    clear hcall
                    go_wp2_with (go_at_fn F; (with_reducible refine HCC.mono ?_); rintro e9 w2 ⟨rfl, T2, hj2, hf2, hT2⟩; have HN := Lib.hid (EachHeld.next HLB.out.1 HLB.out.2 HRUN.out HOW.out hj2 hf2 hT2); clear hj2 hf2 hT2 HCC d0 d1 d2 d3 d4 d5 hadd hcv hnn iw)
                    go_roundw
                    case rel =>
                      have e1 : x + 1 = 32 * (mp + (j : Int)) + ((k + 1 : Nat) : Int) := by have := HXE.out; omega
                      exact ⟨k + 1, bp, by omega, by go_num, rfl, by rw [← e1]; exact HN.out⟩
                    case measure => simp [intOf]; omega
                  · go_wp2
                    go_loopw [4] (fun i w4 => RunP bs e bp wr w4 i) (fun i _ => bs.length - (intOf i).toNat)
                    case atStart => exact ⟨1, 0, by omega, by omega, by go_num, (fun j hj h1 h2 => by obtain rfl : j = bp := (by omega); exact HE.out), rfl⟩
                    case round =>
                      obtain ⟨d, t, hd0, hdl, rfl, hrun, rfl⟩ := hrel
                      obtain ⟨wt, hwt⟩ : ∃ wt, wt = wr.drewN t := ⟨_, rfl⟩
                      have HWT := Lib.hid hwt
                      have HHt : Hid (Paged tg G bs q mp n p (.slice (some ⟨gb, 0, none⟩) bs.length cb) pgs wt) := by show Paged tg _ _ _ _ _ _ _ _ _; rw [hwt]; exact HHr.out.drewN t
                      have cw0 : wt.cell? ⟨gb, bp, none⟩ = some (.int .i64 e) := by rw [hwt]; exact cb0
                      rw [← hwt]
                      clear hwt d0 d1 d2 d3 d4 d5
                      obtain ⟨d0, d1, d2, d3, d4, d5⟩ := HHt.out.core.fields.cells
                      rw [HP.out] at d2
                      by_cases hlt : bp + d < bs.length
                      · have q1 : decide ((bp : Int) + (d : Int) < ((bs.length : Nat) : Int)) = true := by simp; omega
                        have cw1 : wt.cell? ⟨gb, bp + d, none⟩ = some (.int .i64 bs[bp + d]) := by
                          obtain ⟨g9, e9, h9⟩ := cellsI HHt.out.core.buf (by omega)
                          cases e9
                          exact h9 (bp + d) hlt
                        have iz : (((bp + d : Nat) : Int)) = (bp : Int) + (d : Int) := by omega
                        have hbI : (bp : Int) < ((bs.length : Nat) : Int) := by omega
                        have hbdI : (bp : Int) + (d : Int) < ((bs.length : Nat) : Int) := by omega
                        have hto : ((bp : Int) + (d : Int)).toNat = bp + d := by omega
                        have i7 : IntKind.i64.wrap ((bp : Int) + (d : Int) + 1) = (bp : Int) + (d : Int) + 1 := by rw [IntKind.wrap_i64]; omega
                        by_cases heq : bs[bp + d] = e
                        · have hrun2 : Hid (∀ j, (hj : j < bs.length) → bp ≤ j → j < bp + (d + 1) → bs[j] = e) := fun j hj h1 h2 => by
                            by_cases c : j < bp + d
                            · exact hrun.out j hj h1 c
                            · obtain rfl : j = bp + d := by omega
                              exact heq
                          rw [heq] at cw1
                          clear heq iz
                          go_wp2
                          go_quiet (fail)
                          go_wp2
                          go_roundw
                          case rel => exact ⟨d + 1, t + nq, by omega, by omega, by go_num, hrun2, by rw [HWT.out, drewN2]⟩
                          case measure => simp [intOf] <;> omega
                        · have hstop : Hid (∀ j, (hj : j < bs.length) → bp + d ≤ j → e < bs[j]) := fun j hj h1 => by
                            have h2 := HST.out (bp + d) j hlt hj h1
                            have h3 := HST.out bp (bp + d) (by omega) hlt (by omega)
                            have h4 := HE.out
                            rw [h4] at h3
                            omega
                          obtain ⟨z, hz⟩ : ∃ z, z = bs[bp + d] := ⟨_, rfl⟩
                          rw [← hz] at cw1 heq
                          have z1 : decide (z = e) = false := by simpa using heq
                          have z2 : (z == e) = false := by simpa using heq
                          clear hz iz
                          go_wp2
                          go_quiet (fail)
                          obtain ⟨wv, hwv⟩ : ∃ wv, wv = wt.drewN nq := ⟨_, rfl⟩
                          have HHv : Hid (Paged tg G bs q mp n p (.slice (some ⟨gb, 0, none⟩) bs.length cb) pgs wv) := by show Paged tg _ _ _ _ _ _ _ _ _; rw [hwv]; exact HHt.out.drewN nq
                          have cv0 : wv.cell? ⟨gb, bp, none⟩ = some (.int .i64 e) := by rw [hwv]; exact cw0
                          have HOWv : Hid (J l T1 wv ∧ Fr T w1 wv ∧ ∀ b, T1 b → T b ∨ w1.heap.size ≤ b) := by
                            show J l T1 wv ∧ Fr T w1 wv ∧ ∀ b, T1 b → T b ∨ w1.heap.size ≤ b
                            rw [hwv, HWT.out, drewN2]
                            exact ⟨HC.out.fr _ _ _ _ (fun _ => False) HOW.out.1 ((Fr.refl _ _).drewN _) (fun _ _ h => h), HOW.out.2.1.drewN _, HOW.out.2.2⟩
                          have HRUNd := hrun
                          rw [← hwv]
                          clear hwv d0 d1 d2 d3 d4 d5 HOW HHt HHr cw0 cb0 hrun
                          obtain ⟨d0, d1, d2, d3, d4, d5⟩ := HHv.out.core.fields.cells
                          rw [HP.out] at d2
                          have HOW := HOWv
                          clear HOWv
                          by_cases hex : e = x
                          · have HRUN : Hid (Bc G bs (x + 1) (x + 1) (bp + d) ∧ below (both G bs) (x + 1) = below (both G bs) y ++ [(x, G x + d)]) := by
                              have h9 := hbl.out.1.run HI.out (bp + d) x (by omega) hdl (by have := hbl.out.1.hi bp hmore (Nat.le_refl _); have := HE.out; omega) (fun i h1 h2 => hbl.out.1.gap i h1 h2) (by have := HGP.out; omega) (fun j hj h1 h2 => by rw [HRUNd.out j hj h1 h2]; exact hex) (fun j hj h1 => by have := hstop.out j hj h1; omega) (x + 1) (Int.le_refl _) (fun i h1 h2 => by omega)
                              rw [Nat.add_sub_cancel_left] at h9
                              exact h9
                            have HLB : Hid (l = below (both G bs) y ∧ x ≤ 10000) := ⟨hbl.out.2.1, HXL.out⟩
                            have hdb : d < 2000000000 := by omega
                            have hex2 := hex.symm
                            subst hex2
                            clear hbl
                            have hadd := fun w : World => run_float_arith (P := Tryz.prog) w .add 30 .f64 _ _ _ (nf_add (G x) d (by have := small2 x; omega))
                            rw [← HY.out] at hadd
                            have hcv := fun w : World => run_convert_int_float (P := Tryz.prog) w 3 30 .i64 .f64 ((d : Nat) : Int) (by simp [Tryz.underlying3]) Tryz.underlying30
                            have hnn : floatOfInt .f64 ((d : Nat) : Int) = nf d := rfl
                            have iw : IntKind.i64.wrap ((bp : Int) + (d : Int) - (bp : Int)) = (d : Int) := by rw [IntKind.wrap_i64]; omega
                            obtain ⟨s, hs⟩ : ∃ s, s = nf (G x + d) := ⟨_, rfl⟩
                            rw [← hs] at hadd
                            have HSS := Lib.hid hs
                            clear hs
                            generalize hfd : nf d = fd at hadd hnn
                            clear hfd
                            have hcall := fun d9 hp9 => HC.out.call l x d9 T1 wv HOW.out.1 hp9
                            have HCC := hcall (G x + d) (by rw [HLB.out.1, ← HRUN.out.2, ← HBOTH.out]; exact below_pre _ (by have := HLB.out.2; omega))
                            rw [← HSS.out] at HCC
                            clear hcall
                            go_wp2_with (go_at_fn F; (with_reducible refine HCC.mono ?_); rintro e9 w2 ⟨rfl, T2, hj2, hf2, hT2⟩; have HN := Lib.hid (EachHeld.next HLB.out.1 HLB.out.2 HRUN.out HOW.out hj2 hf2 hT2); clear hj2 hf2 hT2 HCC d0 d1 d2 d3 d4 d5 hadd hcv hnn iw)
                            go_roundw
                            case rel =>
                              have e1 : x + 1 = 32 * (mp + (j : Int)) + ((k + 1 : Nat) : Int) := by have := HXE.out; omega
                              exact ⟨k + 1, bp + d, by omega, by go_num, by go_num, by rw [← e1]; exact HN.out⟩
                            case measure => simp [intOf]; omega
                          · have z3 : decide (e = x) = false := by simpa using hex
                            have z4 : (e == x) = false := by simpa using hex
                            have HRUN : Hid (Bc G bs x (e + 1) (bp + d) ∧ below (both G bs) (e + 1) = below (both G bs) y ++ [(e, d)]) := by
                              have hye := hbl.out.1.hi bp hmore (Nat.le_refl _)
                              rw [HE.out] at hye
                              have hge := hbl.out.1.gap e hye (by omega)
                              have h9 := hbl.out.1.run HI.out (bp + d) e (by omega) hdl hye (fun i h1 h2 => hbl.out.1.gap i h1 (by omega)) (by omega) HRUNd.out hstop.out x (by omega) (fun i h1 h2 => hbl.out.1.gap i (by omega) h2)
                              rw [Nat.add_sub_cancel_left, hge, Nat.zero_add] at h9
                              exact h9
                            have HLB : Hid (l = below (both G bs) y ∧ e ≤ 10000) := ⟨hbl.out.2.1, HEL.out⟩
                            have hcv := fun w : World => run_convert_int_float (P := Tryz.prog) w 3 30 .i64 .f64 ((d : Nat) : Int) (by simp [Tryz.underlying3]) Tryz.underlying30
                            have hnn : floatOfInt .f64 ((d : Nat) : Int) = nf d := rfl
                            have iw : IntKind.i64.wrap ((bp : Int) + (d : Int) - (bp : Int)) = (d : Int) := by rw [IntKind.wrap_i64]; omega
                            obtain ⟨s, hs⟩ : ∃ s, s = nf d := ⟨_, rfl⟩
                            rw [← hs] at hnn
                            have HSS := Lib.hid hs
                            clear hs hbl
                            have hcall := fun d9 hp9 => HC.out.call l e d9 T1 wv HOW.out.1 hp9
                            have HCC := hcall d (by rw [HLB.out.1, ← HRUN.out.2, ← HBOTH.out]; exact below_pre _ (by have := HLB.out.2; omega))
                            rw [← HSS.out] at HCC
                            clear hcall
                            go_wp2_with (go_at_fn F; (with_reducible refine HCC.mono ?_); rintro e9 w2 ⟨rfl, T2, hj2, hf2, hT2⟩; have HN := Lib.hid (EachHeld.next HLB.out.1 HLB.out.2 HRUN.out HOW.out hj2 hf2 hT2); clear hj2 hf2 hT2 HCC d0 d1 d2 d3 d4 d5 hcv hnn iw)
                            go_roundw
                            case rel => exact ⟨bp + d, by go_num, HN.out⟩
                            case measure => simp [intOf] <;> omega
                      · have q1 : decide ((bp : Int) + (d : Int) < ((bs.length : Nat) : Int)) = false := by simp; omega
                        have hstop : Hid (∀ j, (hj : j < bs.length) → bp + d ≤ j → e < bs[j]) := fun j hj h1 => by omega
                        have hto : ((bp : Int) + (d : Int)).toNat = bp + d := by omega
                        have hbI : (bp : Int) < ((bs.length : Nat) : Int) := by omega
                        go_wp2
                        go_quiet (fail)
                        obtain ⟨wv, hwv⟩ : ∃ wv, wv = wt.drewN nq := ⟨_, rfl⟩
                        have HHv : Hid (Paged tg G bs q mp n p (.slice (some ⟨gb, 0, none⟩) bs.length cb) pgs wv) := by show Paged tg _ _ _ _ _ _ _ _ _; rw [hwv]; exact HHt.out.drewN nq
                        have cv0 : wv.cell? ⟨gb, bp, none⟩ = some (.int .i64 e) := by rw [hwv]; exact cw0
                        have HOWv : Hid (J l T1 wv ∧ Fr T w1 wv ∧ ∀ b, T1 b → T b ∨ w1.heap.size ≤ b) := by
                          show J l T1 wv ∧ Fr T w1 wv ∧ ∀ b, T1 b → T b ∨ w1.heap.size ≤ b
                          rw [hwv, HWT.out, drewN2]
                          exact ⟨HC.out.fr _ _ _ _ (fun _ => False) HOW.out.1 ((Fr.refl _ _).drewN _) (fun _ _ h => h), HOW.out.2.1.drewN _, HOW.out.2.2⟩
                        have HRUNd := hrun
                        rw [← hwv]
                        clear hwv d0 d1 d2 d3 d4 d5 HOW HHt HHr cw0 cb0 hrun
                        obtain ⟨d0, d1, d2, d3, d4, d5⟩ := HHv.out.core.fields.cells
                        rw [HP.out] at d2
                        have HOW := HOWv
                        clear HOWv
                        by_cases hex : e = x
                        · have HRUN : Hid (Bc G bs (x + 1) (x + 1) (bp + d) ∧ below (both G bs) (x + 1) = below (both G bs) y ++ [(x, G x + d)]) := by
                            have h9 := hbl.out.1.run HI.out (bp + d) x (by omega) hdl (by have := hbl.out.1.hi bp hmore (Nat.le_refl _); have := HE.out; omega) (fun i h1 h2 => hbl.out.1.gap i h1 h2) (by have := HGP.out; omega) (fun j hj h1 h2 => by rw [HRUNd.out j hj h1 h2]; exact hex) (fun j hj h1 => by have := hstop.out j hj h1; omega) (x + 1) (Int.le_refl _) (fun i h1 h2 => by omega)
                            rw [Nat.add_sub_cancel_left] at h9
                            exact h9
                          have HLB : Hid (l = below (both G bs) y ∧ x ≤ 10000) := ⟨hbl.out.2.1, HXL.out⟩
                          have hdb : d < 2000000000 := by omega
                          have hex2 := hex.symm
                          subst hex2
                          clear hbl
                          have hadd := fun w : World => run_float_arith (P := Tryz.prog) w .add 30 .f64 _ _ _ (nf_add (G x) d (by have := small2 x; omega))
                          rw [← HY.out] at hadd
                          have hcv := fun w : World => run_convert_int_float (P := Tryz.prog) w 3 30 .i64 .f64 ((d : Nat) : Int) (by simp [Tryz.underlying3]) Tryz.underlying30
                          have hnn : floatOfInt .f64 ((d : Nat) : Int) = nf d := rfl
                          have iw : IntKind.i64.wrap ((bp : Int) + (d : Int) - (bp : Int)) = (d : Int) := by rw [IntKind.wrap_i64]; omega
                          obtain ⟨s, hs⟩ : ∃ s, s = nf (G x + d) := ⟨_, rfl⟩
                          rw [← hs] at hadd
                          have HSS := Lib.hid hs
                          clear hs
                          generalize hfd : nf d = fd at hadd hnn
                          clear hfd
                          have hcall := fun d9 hp9 => HC.out.call l x d9 T1 wv HOW.out.1 hp9
                          have HCC := hcall (G x + d) (by rw [HLB.out.1, ← HRUN.out.2, ← HBOTH.out]; exact below_pre _ (by have := HLB.out.2; omega))
                          rw [← HSS.out] at HCC
                          clear hcall
                          go_wp2_with (go_at_fn F; (with_reducible refine HCC.mono ?_); rintro e9 w2 ⟨rfl, T2, hj2, hf2, hT2⟩; have HN := Lib.hid (EachHeld.next HLB.out.1 HLB.out.2 HRUN.out HOW.out hj2 hf2 hT2); clear hj2 hf2 hT2 HCC d0 d1 d2 d3 d4 d5 hadd hcv hnn iw)
                          go_roundw
                          case rel =>
                            have e1 : x + 1 = 32 * (mp + (j : Int)) + ((k + 1 : Nat) : Int) := by have := HXE.out; omega
                            exact ⟨k + 1, bp + d, by omega, by go_num, by go_num, by rw [← e1]; exact HN.out⟩
                          case measure => simp [intOf]; omega
                        · have z3 : decide (e = x) = false := by simpa using hex
                          have z4 : (e == x) = false := by simpa using hex
                          have HRUN : Hid (Bc G bs x (e + 1) (bp + d) ∧ below (both G bs) (e + 1) = below (both G bs) y ++ [(e, d)]) := by
                            have hye := hbl.out.1.hi bp hmore (Nat.le_refl _)
                            rw [HE.out] at hye
                            have hge := hbl.out.1.gap e hye (by omega)
                            have h9 := hbl.out.1.run HI.out (bp + d) e (by omega) hdl hye (fun i h1 h2 => hbl.out.1.gap i h1 (by omega)) (by omega) HRUNd.out hstop.out x (by omega) (fun i h1 h2 => hbl.out.1.gap i (by omega) h2)
                            rw [Nat.add_sub_cancel_left, hge, Nat.zero_add] at h9
                            exact h9
                          have HLB : Hid (l = below (both G bs) y ∧ e ≤ 10000) := ⟨hbl.out.2.1, HEL.out⟩
                          have hcv := fun w : World => run_convert_int_float (P := Tryz.prog) w 3 30 .i64 .f64 ((d : Nat) : Int) (by simp [Tryz.underlying3]) Tryz.underlying30
                          have hnn : floatOfInt .f64 ((d : Nat) : Int) = nf d := rfl
                          have iw : IntKind.i64.wrap ((bp : Int) + (d : Int) - (bp : Int)) = (d : Int) := by rw [IntKind.wrap_i64]; omega
                          obtain ⟨s, hs⟩ : ∃ s, s = nf d := ⟨_, rfl⟩
                          rw [← hs] at hnn
                          have HSS := Lib.hid hs
                          clear hs hbl
                          have hcall := fun d9 hp9 => HC.out.call l e d9 T1 wv HOW.out.1 hp9
                          have HCC := hcall d (by rw [HLB.out.1, ← HRUN.out.2, ← HBOTH.out]; exact below_pre _ (by have := HLB.out.2; omega))
                          rw [← HSS.out] at HCC
                          clear hcall
                          go_wp2_with (go_at_fn F; (with_reducible refine HCC.mono ?_); rintro e9 w2 ⟨rfl, T2, hj2, hf2, hT2⟩; have HN := Lib.hid (EachHeld.next HLB.out.1 HLB.out.2 HRUN.out HOW.out hj2 hf2 hT2); clear hj2 hf2 hT2 HCC d0 d1 d2 d3 d4 d5 hcv hnn iw)
                          go_roundw
                          case rel => exact ⟨bp + d, by go_num, HN.out⟩
                          case measure => simp [intOf] <;> omega
                · have hmI : ((bs.length : Nat) : Int) ≤ (bp : Int) := by omega
                  have hmI2 : decide (((bs.length : Nat) : Int) ≤ (bp : Int)) = true := by simpa using hmI
                  have hbeyond : Hid (∀ j, (hj : j < bs.length) → bp + 0 ≤ j → x < bs[j]) := fun j hj h1 => by omega
                  have HRUN : Hid (Bc G bs (x + 1) (x + 1) (bp + 0) ∧ below (both G bs) (x + 1) = below (both G bs) y ++ [(x, G x + 0)]) := by
                    have h9 := hbl.out.1.run HI.out (bp + 0) x (by omega) hbl.out.1.le HYX.out (fun i h1 h2 => hbl.out.1.gap i h1 h2) (by have := HGP.out; omega) (fun j hj h1 h2 => by omega) (fun j hj h1 => hbeyond.out j hj h1) (x + 1) (Int.le_refl _) (fun i h1 h2 => by omega)
                    rw [Nat.add_sub_cancel_left] at h9
                    exact h9
                  have HLB : Hid (l = below (both G bs) y ∧ x ≤ 10000) := ⟨hbl.out.2.1, HXL.out⟩
                  have hadd := fun w : World => run_float_arith (P := Tryz.prog) w .add 30 .f64 _ _ _ (nf_add (G x) 0 (by have := small2 x; omega))
                  rw [← HY.out] at hadd
                  have hcv := fun w : World => run_convert_int_float (P := Tryz.prog) w 3 30 .i64 .f64 0 (by simp [Tryz.underlying3]) Tryz.underlying30
                  have hnn : floatOfInt .f64 0 = nf 0 := rfl
                  have iw : IntKind.i64.wrap ((bp : Int) - (bp : Int)) = 0 := by rw [IntKind.wrap_i64]; omega
                  obtain ⟨s, hs⟩ : ∃ s, s = nf (G x + 0) := ⟨_, rfl⟩
                  rw [← hs] at hadd
                  have HSS := Lib.hid hs
                  clear hs hbl
                  generalize hfd : nf 0 = fd at hadd hnn
                  clear hfd
                  have hcall := fun d9 hp9 => HC.out.call l x d9 T1 wr HOW.out.1 hp9
                  have HCC := hcall (G x + 0) (by rw [HLB.out.1, ← HRUN.out.2, ← HBOTH.out]; exact below_pre _ (by have := HLB.out.2; omega))
                  rw [← HSS.out] at HCC
                  clear hcall
                  go_wp2_with (go_at_fn F; (with_reducible refine HCC.mono ?_); rintro e9 w2 ⟨rfl, T2, hj2, hf2, hT2⟩; have HN := Lib.hid (EachHeld.next HLB.out.1 HLB.out.2 HRUN.out HOW.out hj2 hf2 hT2); clear hj2 hf2 hT2 HCC d0 d1 d2 d3 d4 d5 hadd hcv hnn iw)
                  go_roundw
                  case rel =>
                    have e1 : x + 1 = 32 * (mp + (j : Int)) + ((k + 1 : Nat) : Int) := by have := HXE.out; omega
                    exact ⟨k + 1, bp, by omega, by go_num, rfl, by rw [← e1]; exact HN.out⟩
                  case measure => simp [intOf]; omega
          · obtain rfl : k = 32 := by omega
            clear hk32 hk hbl
            go_wp2
            go_roundw
            case rel =>
              have e1 : 32 * (mp + ((j + 1 : Nat) : Int)) = 32 * (mp + (j : Int)) + ((32 : Nat) : Int) := by omega
              exact ⟨j + 1, bp, by omega, by go_num, rfl, by rw [e1]; exact HHELD.out⟩
            case measure => simp [intOf]; omega
    · obtain rfl : j = n := by omega
      obtain ⟨X, hX⟩ : ∃ X, X = max (32 * (mp + (j : Int))) 10001 := ⟨_, rfl⟩
      have hnx : Hid (EachHeld G bs J T X bp w1 wr) := HHELD.out.skip (by omega) (fun i h1 h2 => HH.out.high h1)
      have HX1 : Hid (10001 ≤ X) := by show _ ≤ _; omega
      clear hlt hj hX hbl
      go_wp2
      clear d0 d1 d2 d3 d4 d5 HHr HOW
      go_loopw [4] (fun b wr2 => EachP3 G bs J T X w1 wr2 b) (fun b _ => bs.length - (intOf b).toNat)
      case atStart => exact ⟨bp, rfl, hnx.out⟩
      case round =>
        obtain ⟨bp, rfl, hheld⟩ := hrel
        obtain ⟨y, l, T1, hj1, hfr1, hT1, hbl⟩ := hheld
        have HHr : Hid (Paged tg G bs q mp j p (.slice ao bs.length cb) pgs wr) := HH.out.fr hfr1 HTD.out
        obtain ⟨d0, d1, d2, d3, d4, d5⟩ := HHr.out.core.fields.cells
        rw [HP.out] at d2
        have HOW := Lib.hid (And.intro hj1 (And.intro hfr1 hT1))
        clear hj1 hfr1 hT1
        have hble := hbl.out.1.le
        by_cases hmore : bp < bs.length
        · obtain ⟨gb, hao, hbc⟩ := cellsI HHr.out.core.buf (by omega)
          subst hao
          have cb0 := hbc bp hmore
          have hmI3 : (bp : Int) < ((bs.length : Nat) : Int) := by omega
          have i4 : IntKind.i64.wrap ((bp : Int) + 1) = (bp : Int) + 1 := by rw [IntKind.wrap_i64]; omega
          have HEL0 := (HI.out bs[bp] (List.getElem_mem hmore)).2
          obtain ⟨e, he⟩ : ∃ e, e = bs[bp] := ⟨_, rfl⟩
          have HE : Hid (bs[bp] = e) := he.symm
          rw [← he] at cb0 HEL0
          have HEL : Hid (e ≤ 10000) := HEL0
          clear he hbc HEL0
          go_wp2
          go_loopw [4] (fun i w4 => RunP bs e bp wr w4 i) (fun i _ => bs.length - (intOf i).toNat)
          case atStart => exact ⟨1, 0, by omega, by omega, by go_num, (fun j hj h1 h2 => by obtain rfl : j = bp := (by omega); exact HE.out), rfl⟩
          case round =>
            obtain ⟨d, t, hd0, hdl, rfl, hrun, rfl⟩ := hrel
            obtain ⟨wt, hwt⟩ : ∃ wt, wt = wr.drewN t := ⟨_, rfl⟩
            have HWT := Lib.hid hwt
            have HHt : Hid (Paged tg G bs q mp j p (.slice (some ⟨gb, 0, none⟩) bs.length cb) pgs wt) := by show Paged tg _ _ _ _ _ _ _ _ _; rw [hwt]; exact HHr.out.drewN t
            have cw0 : wt.cell? ⟨gb, bp, none⟩ = some (.int .i64 e) := by rw [hwt]; exact cb0
            rw [← hwt]
            clear hwt d0 d1 d2 d3 d4 d5
            obtain ⟨d0, d1, d2, d3, d4, d5⟩ := HHt.out.core.fields.cells
            rw [HP.out] at d2
            by_cases hlt : bp + d < bs.length
            · have q1 : decide ((bp : Int) + (d : Int) < ((bs.length : Nat) : Int)) = true := by simp; omega
              have cw1 : wt.cell? ⟨gb, bp + d, none⟩ = some (.int .i64 bs[bp + d]) := by
                obtain ⟨g9, e9, h9⟩ := cellsI HHt.out.core.buf (by omega)
                cases e9
                exact h9 (bp + d) hlt
              have iz : (((bp + d : Nat) : Int)) = (bp : Int) + (d : Int) := by omega
              have hbI : (bp : Int) < ((bs.length : Nat) : Int) := by omega
              have hbdI : (bp : Int) + (d : Int) < ((bs.length : Nat) : Int) := by omega
              have hto : ((bp : Int) + (d : Int)).toNat = bp + d := by omega
              have i7 : IntKind.i64.wrap ((bp : Int) + (d : Int) + 1) = (bp : Int) + (d : Int) + 1 := by rw [IntKind.wrap_i64]; omega
              by_cases heq : bs[bp + d] = e
              · have hrun2 : Hid (∀ j, (hj : j < bs.length) → bp ≤ j → j < bp + (d + 1) → bs[j] = e) := fun j hj h1 h2 => by
                  by_cases c : j < bp + d
                  · exact hrun.out j hj h1 c
                  · obtain rfl : j = bp + d := by omega
                    exact heq
                rw [heq] at cw1
                clear heq iz
                go_wp2
                go_quiet (fail)
                go_wp2
                go_roundw
                case rel => exact ⟨d + 1, t + nq, by omega, by omega, by go_num, hrun2, by rw [HWT.out, drewN2]⟩
                case measure => simp [intOf] <;> omega
              · have hstop : Hid (∀ j, (hj : j < bs.length) → bp + d ≤ j → e < bs[j]) := fun j hj h1 => by
                  have h2 := HST.out (bp + d) j hlt hj h1
                  have h3 := HST.out bp (bp + d) (by omega) hlt (by omega)
                  have h4 := HE.out
                  rw [h4] at h3
                  omega
                obtain ⟨z, hz⟩ : ∃ z, z = bs[bp + d] := ⟨_, rfl⟩
                rw [← hz] at cw1 heq
                have z1 : decide (z = e) = false := by simpa using heq
                have z2 : (z == e) = false := by simpa using heq
                clear hz iz
                go_wp2
                go_quiet (fail)
                obtain ⟨wv, hwv⟩ : ∃ wv, wv = wt.drewN nq := ⟨_, rfl⟩
                have HHv : Hid (Paged tg G bs q mp j p (.slice (some ⟨gb, 0, none⟩) bs.length cb) pgs wv) := by show Paged tg _ _ _ _ _ _ _ _ _; rw [hwv]; exact HHt.out.drewN nq
                have cv0 : wv.cell? ⟨gb, bp, none⟩ = some (.int .i64 e) := by rw [hwv]; exact cw0
                have HOWv : Hid (J l T1 wv ∧ Fr T w1 wv ∧ ∀ b, T1 b → T b ∨ w1.heap.size ≤ b) := by
                  show J l T1 wv ∧ Fr T w1 wv ∧ ∀ b, T1 b → T b ∨ w1.heap.size ≤ b
                  rw [hwv, HWT.out, drewN2]
                  exact ⟨HC.out.fr _ _ _ _ (fun _ => False) HOW.out.1 ((Fr.refl _ _).drewN _) (fun _ _ h => h), HOW.out.2.1.drewN _, HOW.out.2.2⟩
                have HRUNd := hrun
                rw [← hwv]
                clear hwv d0 d1 d2 d3 d4 d5 HOW HHt HHr cw0 cb0 hrun
                obtain ⟨d0, d1, d2, d3, d4, d5⟩ := HHv.out.core.fields.cells
                rw [HP.out] at d2
                have HOW := HOWv
                clear HOWv
                have HRUN : Hid (Bc G bs X (e + 1) (bp + d) ∧ below (both G bs) (e + 1) = below (both G bs) y ++ [(e, d)]) := by
                  have hye := hbl.out.1.hi bp hmore (Nat.le_refl _)
                  rw [HE.out] at hye
                  have hXe : e < X := by have := HEL.out; have := HX1.out; omega
                  have hge := hbl.out.1.gap e hye hXe
                  have h9 := hbl.out.1.run HI.out (bp + d) e (by omega) hdl hye (fun i h1 h2 => hbl.out.1.gap i h1 (by omega)) (by omega) HRUNd.out hstop.out X (by omega) (fun i h1 h2 => hbl.out.1.gap i (by omega) h2)
                  rw [Nat.add_sub_cancel_left, hge, Nat.zero_add] at h9
                  exact h9
                have HLB : Hid (l = below (both G bs) y ∧ e ≤ 10000) := ⟨hbl.out.2.1, HEL.out⟩
                have hcv := fun w : World => run_convert_int_float (P := Tryz.prog) w 3 30 .i64 .f64 ((d : Nat) : Int) (by simp [Tryz.underlying3]) Tryz.underlying30
                have hnn : floatOfInt .f64 ((d : Nat) : Int) = nf d := rfl
                have iw : IntKind.i64.wrap ((bp : Int) + (d : Int) - (bp : Int)) = (d : Int) := by rw [IntKind.wrap_i64]; omega
                obtain ⟨s, hs⟩ : ∃ s, s = nf d := ⟨_, rfl⟩
                rw [← hs] at hnn
                have HSS := Lib.hid hs
                clear hs hbl
                have hcall := fun d9 hp9 => HC.out.call l e d9 T1 wv HOW.out.1 hp9
                have HCC := hcall d (by rw [HLB.out.1, ← HRUN.out.2, ← HBOTH.out]; exact below_pre _ (by have := HLB.out.2; omega))
                rw [← HSS.out] at HCC
                clear hcall
                go_wp2_with (go_at_fn F; (with_reducible refine HCC.mono ?_); rintro e9 w2 ⟨rfl, T2, hj2, hf2, hT2⟩; have HN := Lib.hid (EachHeld.next HLB.out.1 HLB.out.2 HRUN.out HOW.out hj2 hf2 hT2); clear hj2 hf2 hT2 HCC d0 d1 d2 d3 d4 d5 hcv hnn iw)
                go_roundw
                case rel => exact ⟨bp + d, by go_num, HN.out⟩
                case measure => simp [intOf] <;> omega
            · have q1 : decide ((bp : Int) + (d : Int) < ((bs.length : Nat) : Int)) = false := by simp; omega
              have hstop : Hid (∀ j, (hj : j < bs.length) → bp + d ≤ j → e < bs[j]) := fun j hj h1 => by omega
              have hto : ((bp : Int) + (d : Int)).toNat = bp + d := by omega
              have hbI : (bp : Int) < ((bs.length : Nat) : Int) := by omega
              go_wp2
              go_quiet (fail)
              obtain ⟨wv, hwv⟩ : ∃ wv, wv = wt.drewN nq := ⟨_, rfl⟩
              have HHv : Hid (Paged tg G bs q mp j p (.slice (some ⟨gb, 0, none⟩) bs.length cb) pgs wv) := by show Paged tg _ _ _ _ _ _ _ _ _; rw [hwv]; exact HHt.out.drewN nq
              have cv0 : wv.cell? ⟨gb, bp, none⟩ = some (.int .i64 e) := by rw [hwv]; exact cw0
              have HOWv : Hid (J l T1 wv ∧ Fr T w1 wv ∧ ∀ b, T1 b → T b ∨ w1.heap.size ≤ b) := by
                show J l T1 wv ∧ Fr T w1 wv ∧ ∀ b, T1 b → T b ∨ w1.heap.size ≤ b
                rw [hwv, HWT.out, drewN2]
                exact ⟨HC.out.fr _ _ _ _ (fun _ => False) HOW.out.1 ((Fr.refl _ _).drewN _) (fun _ _ h => h), HOW.out.2.1.drewN _, HOW.out.2.2⟩
              have HRUNd := hrun
              rw [← hwv]
              clear hwv d0 d1 d2 d3 d4 d5 HOW HHt HHr cw0 cb0 hrun
              obtain ⟨d0, d1, d2, d3, d4, d5⟩ := HHv.out.core.fields.cells
              rw [HP.out] at d2
              have HOW := HOWv
              clear HOWv
              have HRUN : Hid (Bc G bs X (e + 1) (bp + d) ∧ below (both G bs) (e + 1) = below (both G bs) y ++ [(e, d)]) := by
                have hye := hbl.out.1.hi bp hmore (Nat.le_refl _)
                rw [HE.out] at hye
                have hXe : e < X := by have := HEL.out; have := HX1.out; omega
                have hge := hbl.out.1.gap e hye hXe
                have h9 := hbl.out.1.run HI.out (bp + d) e (by omega) hdl hye (fun i h1 h2 => hbl.out.1.gap i h1 (by omega)) (by omega) HRUNd.out hstop.out X (by omega) (fun i h1 h2 => hbl.out.1.gap i (by omega) h2)
                rw [Nat.add_sub_cancel_left, hge, Nat.zero_add] at h9
                exact h9
              have HLB : Hid (l = below (both G bs) y ∧ e ≤ 10000) := ⟨hbl.out.2.1, HEL.out⟩
              have hcv := fun w : World => run_convert_int_float (P := Tryz.prog) w 3 30 .i64 .f64 ((d : Nat) : Int) (by simp [Tryz.underlying3]) Tryz.underlying30
              have hnn : floatOfInt .f64 ((d : Nat) : Int) = nf d := rfl
              have iw : IntKind.i64.wrap ((bp : Int) + (d : Int) - (bp : Int)) = (d : Int) := by rw [IntKind.wrap_i64]; omega
              obtain ⟨s, hs⟩ : ∃ s, s = nf d := ⟨_, rfl⟩
              rw [← hs] at hnn
              have HSS := Lib.hid hs
              clear hs hbl
              have hcall := fun d9 hp9 => HC.out.call l e d9 T1 wv HOW.out.1 hp9
              have HCC := hcall d (by rw [HLB.out.1, ← HRUN.out.2, ← HBOTH.out]; exact below_pre _ (by have := HLB.out.2; omega))
              rw [← HSS.out] at HCC
              clear hcall
              go_wp2_with (go_at_fn F; (with_reducible refine HCC.mono ?_); rintro e9 w2 ⟨rfl, T2, hj2, hf2, hT2⟩; have HN := Lib.hid (EachHeld.next HLB.out.1 HLB.out.2 HRUN.out HOW.out hj2 hf2 hT2); clear hj2 hf2 hT2 HCC d0 d1 d2 d3 d4 d5 hcv hnn iw)
              go_roundw
              case rel => exact ⟨bp + d, by go_num, HN.out⟩
              case measure => simp [intOf] <;> omega
        · have hmI : ¬ (bp : Int) < ((bs.length : Nat) : Int) := by omega
          have hfin : l = K := by
            obtain ⟨hc, hl, hy1⟩ := hbl.out
            rw [hl, ← HBOTH.out]
            refine (below_same hc.y0 hy1 (fun i h1 h2 => ?_)).symm
            show G i + cntI bs i = 0
            rw [hc.gap i h1 (by have := HX1.out; omega), cntI_none]
            intro hmem
            obtain ⟨t, ht, rfl⟩ := List.getElem_of_mem hmem
            have := hc.lo t ht (by omega)
            omega
          have HFN := Lib.hid hfin
          clear hfin hbl hmore
          go_wp2
          go_end0
          refine ⟨bs, T1, rfl, HPERM.out, HHr.out, by rw [← HFN.out]; exact HOW.out.1, HFR.out.trans HOW.out.2.1 (fun _ _ h => .inl h) (fun _ _ h => .inr h), fun b hb => ?_⟩
          rcases HOW.out.2.2 b hb with h | h
          · exact .inl h
          · right; have := HFR.out.size; omega
end Go.Proofs.YtnmbjalojgccmaaGreat
end
/-
  ForEach, for every kind of store.
-/
section
namespace Go.Proofs.YtnmbjalojgccmaaGreat
open Go.RowKit

theorem eached_of {kind : Int} {K : StoreKind kind} {most : Int} {ys : Bins} {S : Nat → Prop} {p : Nat} {J : Bins → (Nat → Prop) → World → Prop} {T : Nat → Prop} {w w' : World} {e : Ending} (h : K.St most ys S p w) (hd : ∀ b, T b → ¬ S b)
   (hx : e = .returned (.tuple #[]) ∧ ∃ T', J (keptB kind most ys) T' w' ∧ Fr T w w' ∧ (∀ b, T' b → T b ∨ w.heap.size ≤ b)) : Eached K most ys S p J T w e w' := by
  obtain ⟨rfl, T', h1, h2, h3⟩ := hx
  exact ⟨rfl, K.fr most ys S p T w w' h h2 (fun k hk h => hd k h hk), T', h1, h2.mono (fun _ _ h => .inr h), h3⟩

/-- A dense store's bins, told. -/
theorem eachDense {f : Int → Nat} {c : Value} {mn mx : Int} {p g L cp : Nat} {rest : List Value} {TT : TypeId} {w : World} {K : Bins} (h : DenseOk f c mn mx p g L cp rest TT w) (hs : tot2 f < 9007199254740992) (h1 : mn ≤ mx) (hlo : -10000 ≤ mn) (hhi : mx ≤ 10000)
   (ha : Asc K) (hp : Pos K) (hf : cntB K = f) (hz : ∀ i, i < mn ∨ mx < i → f i = 0) {F : FuncId} {bx : Nat} {J : Bins → (Nat → Prop) → World → Prop} {T : Nat → Prop} (hC : Callback F bx K J) (hJ : J [] T w) (hTp : ¬ T p) (hTg : ¬ T g) :
    Calls Tryz.prog 204 #[.pointer (some ⟨p, 0, none⟩), .func (.func F) #[] #[.pointer (some ⟨bx, 0, none⟩)]] w fun e w' => e = .returned (.tuple #[]) ∧ ∃ T', J K T' w' ∧ Fr T w w' ∧ (∀ b, T' b → T b ∨ w.heap.size ≤ b) := by
  have hk : nz f mn (mx - mn + 1).toNat = K := by
    rw [← hf]
    exact nz_all ha hp mn mx (fun i hi => by rw [hf]; exact hz i (.inl hi)) (fun i hi => by rw [hf]; exact hz i (.inr hi))
  rw [← hk] at hC ⊢
  exact eachD_any f c mn mx p g L cp rest TT w h hs h1 hlo hhi hC hJ hTp hTg

def eachD : EachKind kindD where
  fE := 204
  mE := fun _ _ => by kernel_rfl
  eE := enters_of Tryz.func204 (by kernel_rfl) rfl
  cE := fun most ys S p F bx J T w h hf hC hJ hd => by
    have h' : StD most ys S p w := h
    rcases h' with ⟨rfl, h2, _⟩ | ⟨mn, mx, g, L, cp, h1, h2, h3, h4⟩
    · refine (eachDE_any p [] _ w h2 _).mono fun e w' he => eached_of h hd ?_
      obtain ⟨rfl, rfl⟩ := he
      exact ⟨rfl, T, by rw [kept_nil]; exact hJ, Fr.refl _ _, fun b hb => .inl hb⟩
    · refine (eachDense h1.ok (by rw [tot2_cnt hf.inR]; have := hf.tot; omega) h1.le h1.lo h1.hi (kept_asc 0 most ys) (kept_pos 0 most hf.pos) (cnt_kept0 (by decide) (by decide) ys) h1.zero hC hJ (fun h => hd p h ((h4 p).2 (.inl rfl))) (fun h => hd g h ((h4 g).2 (.inr rfl)))).mono fun e w' he => eached_of h hd he

def eachL : EachKind kindL where
  fE := 204
  mE := fun _ _ => by kernel_rfl
  eE := enters_of Tryz.func204 (by kernel_rfl) rfl
  cE := fun most ys S p F bx J T w h hf hC hJ hd => by
    have h' : StL most ys S p w := h
    obtain ⟨m, rfl, hm1, hm2, h'⟩ := h'
    rcases h' with ⟨rfl, h2, _⟩ | ⟨col, mn, mx, g, L, cp, h1, h2, h3, h4, h5⟩
    · refine (eachDE_any p _ _ w h2 _).mono fun e w' he => eached_of h hd ?_
      obtain ⟨rfl, rfl⟩ := he
      exact ⟨rfl, T, by rw [kept_nil]; exact hJ, Fr.refl _ _, fun b hb => .inl hb⟩
    · refine (eachDense h1.ok (by rw [← h1.tot]; exact h1.lt) h1.le h1.lo h1.hi (kept_asc 3 m ys) (kept_pos 3 m hf.pos) (cnt_kept3 hf.inR hf.pos h3 h2) h1.zero hC hJ (fun h => hd p h ((h5 p).2 (.inl rfl))) (fun h => hd g h ((h5 g).2 (.inr rfl)))).mono fun e w' he => eached_of h hd he

def eachH : EachKind kindH where
  fE := 204
  mE := fun _ _ => by kernel_rfl
  eE := enters_of Tryz.func204 (by kernel_rfl) rfl
  cE := fun most ys S p F bx J T w h hf hC hJ hd => by
    have h' : StH most ys S p w := h
    obtain ⟨m, rfl, hm1, hm2, h'⟩ := h'
    rcases h' with ⟨rfl, h2, _⟩ | ⟨col, mn, mx, g, L, cp, h1, h2, h3, h4, h5⟩
    · refine (eachDE_any p _ _ w h2 _).mono fun e w' he => eached_of h hd ?_
      obtain ⟨rfl, rfl⟩ := he
      exact ⟨rfl, T, by rw [kept_nil]; exact hJ, Fr.refl _ _, fun b hb => .inl hb⟩
    · refine (eachDense h1.ok (by rw [← h1.tot]; exact h1.lt) h1.le h1.lo h1.hi (kept_asc 4 m ys) (kept_pos 4 m hf.pos) (cnt_kept4 hf.inR hf.pos h3 h2) h1.zero hC hJ (fun h => hd p h ((h5 p).2 (.inl rfl))) (fun h => hd g h ((h5 g).2 (.inr rfl)))).mono fun e w' he => eached_of h hd he

def eachS : EachKind kindS where
  fE := 249
  mE := fun _ _ => by kernel_rfl
  eE := enters_of Tryz.func249 (by kernel_rfl) rfl
  cE := fun most ys S p F bx J T w h hf hC hJ hd => by
    obtain ⟨b, h1, h2⟩ := id h
    exact (eachS_any (cntB ys) p b ys.length (keptB 1 most ys) w h1 (by have := hf.len; omega) (fun i hi => cntB_inR hf.inR i hi) (by rw [tot2_cnt hf.inR]; have := hf.tot; omega) (kept_asc 1 most ys) (kept_pos 1 most hf.pos) (cnt_kept0 (by decide) (by decide) ys) hC hJ (fun h => hd p h ((h2 p).2 (.inl rfl))) (fun h => hd b h ((h2 b).2 (.inr rfl)))).mono fun e w' he => eached_of h hd he

def eachP : EachKind kindP where
  fE := 303
  mE := fun _ _ => by kernel_rfl
  eE := enters_of Tryz.func303 (by kernel_rfl) rfl
  cE := fun most ys S p F bx J T w h hf hC hJ hd => by
    obtain ⟨tg, G, bs, q, mp, n, bufv, pgs, h1, h2, h3, h4, h5, h6⟩ := id h
    have htt := both_tot h2 hf.inR h3
    refine (eachP_any G bs q mp n p bufv pgs (keptB 2 most ys) w h1 h3 (both_zero h2 hf.inR) (by have := hf.tot; omega) (kept_asc 2 most ys) (kept_pos 2 most hf.pos) (kept_inR hf.known hf.inR) (by rw [cnt_kept0 (by decide) (by decide), h2]) hC hJ (fun k hk h => hd k h ((h6 k).2 hk))).mono ?_
    rintro e w' ⟨bs', T', rfl, hpm, hP, hj, hfr, hT⟩
    refine ⟨rfl, ⟨tg, G, bs', q, mp, n, bufv, pgs, hP, ?_, fun b hb => h3 b (hpm.mem_iff.1 hb), by rw [hpm.length_eq]; exact h4, h5, h6⟩, T', hj, hfr.mono (fun k _ hk => hk.elim (fun h => .inl ((h6 k).2 (.inr (.inl h)))) (fun h => .inr h)), hT⟩
    rw [← h2]
    show (fun i => G i + cntI bs' i) = fun i => G i + cntI bs i
    rw [cntI_perm hpm]
end Go.Proofs.YtnmbjalojgccmaaGreat
end
