/-
  The store with pages: KeyAtRank.
-/
import Derived.Test.YtnmbjalojgccmaaGreatQYF
section
namespace Go.Proofs.YtnmbjalojgccmaaGreat
open Go.RowKit
variable {tg : Int}

set_option maxRecDepth 100000 in
theorem pred_any (y r bx : Nat) (w : World) (h : w.cell? ⟨bx, 0, none⟩ = some (.float .f64 r)) :
    Calls Tryz.prog 318 #[.float .f64 y, .pointer (some ⟨bx, 0, none⟩)] w fun e w' => e = .returned (.bool (fgt2 y r)) ∧ w = w' := by
  unfold fgt2
  generalize hB : (FloatKind.f64.format.order y r == some .gt) = B
  go_enter Tryz.func318, Tryz.ntmps318
  go_wp2
  go_ret
  exact ⟨rfl, rfl⟩

def KeyP1 (G : Int → Nat) (bs : List Int) (r : Nat) (mp : Int) (n : Nat) (w wr : World) (v b i : Value) : Prop :=
  ∃ (j bp : Nat), j ≤ n ∧ i = .int .i64 (j : Int) ∧ b = .int .i64 (bp : Int) ∧ v = .float .f64 (nf (cum G (32 * (mp + (j : Int))) + bp)) ∧ Hid (Cur G bs r (32 * (mp + (j : Int))) bp) ∧ wr = w
def KeyP2 (G : Int → Nat) (bs : List Int) (r : Nat) (x : Int) (w wr : World) (v b i : Value) : Prop :=
  ∃ (k bp : Nat), k ≤ 32 ∧ i = .int .i64 (k : Int) ∧ b = .int .i64 (bp : Int) ∧ v = .float .f64 (nf (cum G (32 * x + (k : Int)) + bp)) ∧ Hid (Cur G bs r (32 * x + (k : Int)) bp) ∧ wr = w
def KeyP3 (G : Int → Nat) (bs : List Int) (r : Nat) (x : Int) (w wr : World) (v b : Value) : Prop :=
  ∃ (bp : Nat), b = .int .i64 (bp : Int) ∧ v = .float .f64 (nf (cum G x + bp)) ∧ Hid (Cur G bs r x bp) ∧ wr = w

/-- Behind a search for a rank: the buffer is sorted, the store as it was. -/
def KeyGiven (tg : Int) (G : Int → Nat) (bs : List Int) (q : Int → Option (Nat × Nat)) (mp : Int) (n p : Nat) (bufv pgs : Value) (r : Nat) (val : Int → Value) (w : World) (e : Ending) (w' : World) : Prop :=
  ∃ bs' K, e = .returned (val K) ∧ KeyIs (both G bs) r K ∧ bs'.Perm bs ∧ Paged tg G bs' q mp n p bufv pgs w' ∧ Fr (fun k => bufv.ownBlock = some k) w w'

set_option maxRecDepth 100000 in
set_option maxHeartbeats 1000000 in
theorem cumul_any (G : Int → Nat) (bs0 : List Int) (q : Int → Option (Nat × Nat)) (mp : Int) (n p : Nat) (bufv pgs : Value) (r bx : Nat) (w : World) (h0 : Paged tg G bs0 q mp n p bufv pgs w) (hbx : w.heap[bx]? = some (.cells #[.float .f64 r] 30 (0, 0)))
   (hI0 : InI bs0) (hz : ∀ i, i < -10000 ∨ 10000 < i → G i = 0) (hT0 : tot2 G + bs0.length < 1000000000) (hr1 : fgt2 (nf 0) r = false) (hr20 : fgt2 (nf (tot2 G + bs0.length)) r = true) :
    Calls Tryz.prog 317 #[.pointer (some ⟨p, 0, none⟩), .func (.func 318) #[] #[.pointer (some ⟨bx, 0, none⟩)]] w fun e w' => KeyGiven tg G bs0 q mp n p bufv pgs r (fun K => .tuple #[.int .i64 K, .nilIface]) w e w' := by
  have hsort := sortBuf_any G bs0 q mp n p bufv pgs w h0 (by omega)
  have HBT : Hid (∀ k, bufv.ownBlock = some k → k ≠ bx) := fun k hk => by
    obtain ⟨_, hc⟩ := owns_tag h0.core.buf hk; exact tag_ne hc hbx (by decide)
  have HBX := Lib.hid hbx
  have HI0 := Lib.hid hI0
  have HZ0 := Lib.hid hz
  have HT0 := Lib.hid hT0
  have HR10 := Lib.hid hr1
  have HR20 := Lib.hid hr20
  clear h0 hbx hI0 hz hT0 hr1 hr20
  go_enter Tryz.func317, Tryz.ntmps317
  go_wp2_with fail
  refine hsort.mono ?_
  clear hsort
  rintro e w1 ⟨bs, rfl, hperm, hs, h, hfr⟩
  have hbx1 : w1.cell? ⟨bx, 0, none⟩ = some (.float .f64 r) := by
    refine cell_of_row _ _ 0 _ _ _ (hfr.heap HBX.out (fun e => ?_))
    exact HBT.out bx e rfl
  have hI : InI bs := fun b hb => HI0.out b (hperm.mem_iff.1 hb)
  have hz := HZ0.out
  have hT : tot2 G + bs.length < 1000000000 := by rw [hperm.length_eq]; exact HT0.out
  have hr1 := HR10.out
  have hr2 : fgt2 (nf (tot2 G + bs.length)) r = true := by rw [hperm.length_eq]; exact HR20.out
  have HPERM := Lib.hid hperm
  have HFR := Lib.hid hfr
  have HBOTH : Hid (both G bs = both G bs0) := by
    show (fun i => G i + cntI bs i) = fun i => G i + cntI bs0 i
    rw [cntI_perm hperm]
  clear hperm hfr HBX HI0 HZ0 HT0 HR10 HR20 HBT
  obtain ⟨ao, n1, cb, rfl⟩ := owns_slice h.core.buf
  obtain rfl := owns_len h.core.buf
  obtain ⟨aq, n2, cq, hpgs⟩ := owns_slice h.core.row
  have hnq : n2 = n := by have h2 := h.core.row; rw [hpgs] at h2; exact owns_len h2
  subst hnq
  obtain ⟨n, hn2⟩ : ∃ n, n = n2 := ⟨_, rfl⟩
  subst hn2
  obtain ⟨d0, d1, d2, d3, d4, d5⟩ := h.core.fields.cells
  rw [hpgs] at d2
  have HPR := fun y => pred_any y r bx w1 hbx1
  have HIX := fun (k : Nat) (h1 : (0 : Int) ≤ (k : Int)) h2 x hx1 hx2 => index_any p x (k : Int) w1 d4 hx1 hx2 h1 h2
  have hcum : ∀ y, cum G y ≤ tot2 G := fun y => by
    by_cases c : y ≤ 10001
    · exact cum_le_tot G y c
    · rw [tot2_def, cum_same G 10001 y (by omega) (fun i h1 _ => hz i (.inr (by omega)))]; omega
  have HBC : Hid (0 < bs.length → ∃ g, ao = some ⟨g, 0, none⟩ ∧ ∀ k, (hk : k < bs.length) → w1.cell? ⟨g, k, none⟩ = some (.int .i64 bs[k])) := fun h0 => cellsI h.core.buf h0
  have HBD : Hid ((n = 0 ∧ mp = 9223372036854775807) ∨ (0 < n ∧ -330 ≤ mp ∧ mp + (n : Int) ≤ 330)) := by rcases h.bd with ⟨h1, h2, _⟩ | h2; exact .inl ⟨h1, h2⟩; exact .inr h2
  have hnb : n < 1000000000 := by rcases h.bd with ⟨h1, h2, _⟩ | h2 <;> omega
  have hbl : bs.length < 1000000000 := by omega
  have HST : Hid (∀ i j, (hi : i < bs.length) → (hj : j < bs.length) → i ≤ j → bs[i] ≤ bs[j]) := fun i j hi hj hij => by
    rcases Nat.lt_or_eq_of_le hij with h | h
    · exact List.pairwise_iff_getElem.1 hs i j hi hj h
    · subst h; exact Int.le_refl _
  have HH := Lib.hid h
  have HP := Lib.hid hpgs
  have HZ := Lib.hid hz
  have HT := Lib.hid hT
  have HS := Lib.hid hs
  have HI := Lib.hid hI
  have HC := Lib.hid hcum
  have HX := Lib.hid HIX
  have HR1 := Lib.hid hr1
  have HR2 := Lib.hid hr2
  clear h hz hT hI hcum hpgs HIX hr1 hr2 hs hbx1
  go_wp2
  go_loopw [6, 7, 20] (fun v b i wr => KeyP1 G bs r mp n w1 wr v b i) (fun _ _ i _ => n - (intOf i).toNat)
  case atStart =>
    have hc0 : cum G (32 * (mp + ((0 : Nat) : Int))) = 0 := cum_none G _ (fun i hi => HH.out.low (by omega))
    exact ⟨0, 0, Nat.zero_le _, rfl, rfl, by rw [hc0, nf_zero], ⟨Nat.zero_le _, fun j hj h => by omega, fun j hj _ i h1 h2 => HH.out.low (by omega), by rw [hc0]; exact HR1.out⟩, rfl⟩
  case round =>
    obtain ⟨j, bp, hj, rfl, rfl, rfl, hcur, rfl⟩ := hrel
    by_cases hlt : j < n
    · have hbd : -330 ≤ mp ∧ mp + (n : Int) ≤ 330 := by have := HBD.out; omega
      obtain ⟨g, c0, hg2, hgc, hcell⟩ := HH.out.rowAt (by omega)
      rw [HP.out] at hg2
      cases hg2
      have hc := hcell j hlt
      have hltI : (j : Int) < (n : Int) := by omega
      have i1 : IntKind.i64.wrap ((j : Int) + 1) = (j : Int) + 1 := by rw [IntKind.wrap_i64]; omega
      have i2 : IntKind.i64.wrap (mp + (j : Int)) = mp + (j : Int) := by rw [IntKind.wrap_i64]; omega
      cases hq : q (mp + (j : Int)) with
      | none =>
        rw [hq] at hc
        replace hc : wr.cell? ⟨g, j, none⟩ = some (.slice none 0 0) := hc
        have hzz : ∀ i, 32 * (mp + (j : Int)) ≤ i → i < 32 * (mp + ((j + 1 : Nat) : Int)) → G i = 0 := fun i h1 h2 => HH.out.hole hq h1 (by omega)
        have hcur2 : Hid (Cur G bs r (32 * (mp + ((j + 1 : Nat) : Int))) bp) := hcur.out.skip _ (by omega) hzz
        have HSM : Hid (cum G (32 * (mp + ((j + 1 : Nat) : Int))) = cum G (32 * (mp + (j : Int)))) := cum_same G _ _ (by omega) hzz
        clear hcell hq hzz hcur
        go_wp2
        go_loopw [6, 7, 27] (fun v b i wr2 => v = .float .f64 (nf (cum G (32 * (mp + (j : Int))) + bp)) ∧ b = .int .i64 (bp : Int) ∧ i = .int .i64 0 ∧ wr2 = wr) (fun _ _ _ _ => 0)
        case atStart => exact ⟨rfl, rfl, rfl, rfl⟩
        case round =>
          obtain ⟨rfl, rfl, rfl, rfl⟩ := hrel
          go_wp2
          go_roundw
          case rel => exact ⟨j + 1, bp, by omega, by go_num, rfl, by rw [HSM.out], hcur2, rfl⟩
          case measure => simp [intOf]; omega
      | some z =>
        obtain ⟨b, cp⟩ := z
        rw [hq] at hc
        replace hc : wr.cell? ⟨g, j, none⟩ = some (.slice (some ⟨b, 0, none⟩) 32 cp) := hc
        have HR := Lib.hid (HH.out.core.page _ _ _ hq)
        clear hcell hq
        go_wp2
        go_loopw [6, 7, 27] (fun v b i wr2 => KeyP2 G bs r (mp + (j : Int)) wr wr2 v b i) (fun _ _ i _ => 32 - (intOf i).toNat)
        case atStart => exact ⟨0, bp, by omega, rfl, rfl, by rw [show 32 * (mp + (j : Int)) + ((0 : Nat) : Int) = 32 * (mp + (j : Int)) from by omega], by rw [show 32 * (mp + (j : Int)) + ((0 : Nat) : Int) = 32 * (mp + (j : Int)) from by omega]; exact hcur, rfl⟩
        case round =>
          obtain ⟨k, bp, hk, rfl, rfl, rfl, hcur, rfl⟩ := hrel
          by_cases hk32 : k < 32
          · have hkI : (k : Int) < 32 := by omega
            have i3 : IntKind.i64.wrap ((k : Int) + 1) = (k : Int) + 1 := by rw [IntKind.wrap_i64]; omega
            have cl := HR.out.cell k hk32
            have HIX := HX.out k (by omega) (by omega) (mp + (j : Int)) (by omega) (by omega)
            obtain ⟨x, hx⟩ : ∃ x, x = 32 * (mp + (j : Int)) + (k : Int) := ⟨_, rfl⟩
            rw [← hx] at cl HIX hcur
            have HXE := Lib.hid hx
            rw [← hx]
            clear hx
            obtain ⟨y, hy⟩ : ∃ y, y = nf (G x) := ⟨_, rfl⟩
            rw [← hy] at cl
            have HY := Lib.hid hy
            clear hy
            go_wp2_with (go_at_call 316; (with_reducible refine HIX.mono ?_); rintro e w' ⟨rfl, rfl⟩)
            clear HIX
            go_loopw [6, 7] (fun v b wr2 => KeyP3 G bs r x wr wr2 v b) (fun _ b _ => bs.length - (intOf b).toNat)
            case atStart => exact ⟨bp, rfl, rfl, hcur, rfl⟩
            case round =>
              obtain ⟨bp, rfl, rfl, hcur, rfl⟩ := hrel
              have hble := hcur.out.le
              by_cases hmore : bp < bs.length
              · obtain ⟨gb, hao, hbc⟩ := HBC.out (by omega)
                subst hao
                have cb0 := hbc bp hmore
                have hmI : (bp : Int) < ((bs.length : Nat) : Int) := by omega
                by_cases hless : bs[bp] < x
                · have hadd := fun w : World => run_float_arith (P := Tryz.prog) w .add 30 .f64 _ _ _ (nf_add (cum G x + bp) 1 (by have := HC.out x; have := HT.out; omega))
                  rw [nf_one, Nat.add_assoc] at hadd
                  have i4 : IntKind.i64.wrap ((bp : Int) + 1) = (bp : Int) + 1 := by rw [IntKind.wrap_i64]; omega
                  have HPR1 := HPR (nf (cum G x + (bp + 1)))
                  have HLE := Lib.hid hless
                  have HKY : Hid (fgt2 (nf (cum G x + (bp + 1))) r = true → KeyIs (both G bs) r bs[bp]) := fun hy => hcur.out.found HI.out HS.out HZ.out (by have := HT.out; omega) hmore hless hy
                  have HTK : Hid (fgt2 (nf (cum G x + (bp + 1))) r = false → Cur G bs r x (bp + 1)) := fun hy => hcur.out.take hmore hless hy
                  obtain ⟨s, hs⟩ : ∃ s, s = nf (cum G x + (bp + 1)) := ⟨_, rfl⟩
                  obtain ⟨z, hz⟩ : ∃ z, z = bs[bp] := ⟨_, rfl⟩
                  rw [← hs] at hadd HPR1 HKY HTK
                  rw [← hz] at cb0 hless HKY
                  have HSS := Lib.hid hs
                  clear hs hz hbc hcur
                  cases hf : fgt2 s r
                  · rw [hf] at HPR1
                    have hcur2 := Lib.hid (HTK.out hf)
                    clear HKY HTK hf
                    go_wp2_with (go_at_call 318; (with_reducible refine HPR1.mono ?_); rintro e w' ⟨rfl, rfl⟩)
                    go_roundw
                    case rel => exact ⟨bp + 1, by go_num, by rw [HSS.out], hcur2, rfl⟩
                    case measure => simp [intOf]; omega
                  · rw [hf] at HPR1
                    have hres := Lib.hid (HKY.out hf)
                    clear HKY HTK hf
                    go_wp2_with (go_at_call 318; (with_reducible refine HPR1.mono ?_); rintro e w' ⟨rfl, rfl⟩)
                    go_ret2
                    exact ⟨bs, _, rfl, by rw [← HBOTH.out]; exact hres.out, HPERM.out, HH.out, HFR.out⟩
                · have hrest : ∀ j, (hj : j < bs.length) → bp ≤ j → x ≤ bs[j] := fun j hj hjb => by have := HST.out bp j hmore hj hjb; omega
                  obtain ⟨z, hz⟩ : ∃ z, z = bs[bp] := ⟨_, rfl⟩
                  rw [← hz] at cb0 hless
                  clear hz hbc
                  have hst := cum_step (fun i hi => HZ.out i (.inl hi)) x
                  have hadd := fun w : World => run_float_arith (P := Tryz.prog) w .add 30 .f64 _ _ _ (nf_add (cum G x + bp) (G x) (by have := HC.out (x + 1); have := HT.out; omega))
                  rw [show cum G x + bp + G x = cum G (x + 1) + bp from by omega, ← HY.out] at hadd
                  have HPR1 := HPR (nf (cum G (x + 1) + bp))
                  have HKY : Hid (fgt2 (nf (cum G (x + 1) + bp)) r = true → KeyIs (both G bs) r x) := fun hy => hcur.out.at HI.out HZ.out (by have := HT.out; omega) hrest hy
                  have HTK : Hid (fgt2 (nf (cum G (x + 1) + bp)) r = false → Cur G bs r (x + 1) bp) := fun hy => hcur.out.next hrest hy
                  obtain ⟨s, hs⟩ : ∃ s, s = nf (cum G (x + 1) + bp) := ⟨_, rfl⟩
                  rw [← hs] at hadd HPR1 HKY HTK
                  have HSS := Lib.hid hs
                  clear hs hst hrest hcur
                  cases hf : fgt2 s r
                  · rw [hf] at HPR1
                    have hcur2 := Lib.hid (HTK.out hf)
                    clear HKY HTK hf
                    go_wp2_with (go_at_call 318; (with_reducible refine HPR1.mono ?_); rintro e w' ⟨rfl, rfl⟩)
                    go_roundw
                    case rel =>
                      have e1 : x + 1 = 32 * (mp + (j : Int)) + ((k + 1 : Nat) : Int) := by have := HXE.out; omega
                      exact ⟨k + 1, bp, by omega, by go_num, rfl, by rw [HSS.out, e1], by rw [← e1]; exact hcur2, rfl⟩
                    case measure => simp [intOf]; omega
                  · rw [hf] at HPR1
                    have hres := Lib.hid (HKY.out hf)
                    clear HKY HTK hf
                    go_wp2_with (go_at_call 318; (with_reducible refine HPR1.mono ?_); rintro e w' ⟨rfl, rfl⟩)
                    go_ret2
                    exact ⟨bs, _, rfl, by rw [← HBOTH.out]; exact hres.out, HPERM.out, HH.out, HFR.out⟩
              · have hrest : ∀ j, (hj : j < bs.length) → bp ≤ j → x ≤ bs[j] := fun j hj hjb => by omega
                have hmI : decide ((bp : Int) < ((bs.length : Nat) : Int)) = false := by simp; omega
                have hst := cum_step (fun i hi => HZ.out i (.inl hi)) x
                have hadd := fun w : World => run_float_arith (P := Tryz.prog) w .add 30 .f64 _ _ _ (nf_add (cum G x + bp) (G x) (by have := HC.out (x + 1); have := HT.out; omega))
                rw [show cum G x + bp + G x = cum G (x + 1) + bp from by omega, ← HY.out] at hadd
                have HPR1 := HPR (nf (cum G (x + 1) + bp))
                have HKY : Hid (fgt2 (nf (cum G (x + 1) + bp)) r = true → KeyIs (both G bs) r x) := fun hy => hcur.out.at HI.out HZ.out (by have := HT.out; omega) hrest hy
                have HTK : Hid (fgt2 (nf (cum G (x + 1) + bp)) r = false → Cur G bs r (x + 1) bp) := fun hy => hcur.out.next hrest hy
                obtain ⟨s, hs⟩ : ∃ s, s = nf (cum G (x + 1) + bp) := ⟨_, rfl⟩
                rw [← hs] at hadd HPR1 HKY HTK
                have HSS := Lib.hid hs
                clear hs hst hrest hcur
                cases hf : fgt2 s r
                · rw [hf] at HPR1
                  have hcur2 := Lib.hid (HTK.out hf)
                  clear HKY HTK hf
                  go_wp2_with (go_at_call 318; (with_reducible refine HPR1.mono ?_); rintro e w' ⟨rfl, rfl⟩)
                  go_roundw
                  case rel =>
                    have e1 : x + 1 = 32 * (mp + (j : Int)) + ((k + 1 : Nat) : Int) := by have := HXE.out; omega
                    exact ⟨k + 1, bp, by omega, by go_num, rfl, by rw [HSS.out, e1], by rw [← e1]; exact hcur2, rfl⟩
                  case measure => simp [intOf]; omega
                · rw [hf] at HPR1
                  have hres := Lib.hid (HKY.out hf)
                  clear HKY HTK hf
                  go_wp2_with (go_at_call 318; (with_reducible refine HPR1.mono ?_); rintro e w' ⟨rfl, rfl⟩)
                  go_ret2
                  exact ⟨bs, _, rfl, by rw [← HBOTH.out]; exact hres.out, HPERM.out, HH.out, HFR.out⟩
          · obtain rfl : k = 32 := by omega
            clear hk32 hk
            go_wp2
            go_roundw
            case rel =>
              have e1 : 32 * (mp + ((j + 1 : Nat) : Int)) = 32 * (mp + (j : Int)) + ((32 : Nat) : Int) := by omega
              exact ⟨j + 1, bp, by omega, by go_num, rfl, by rw [e1], by rw [e1]; exact hcur, rfl⟩
            case measure => simp [intOf]; omega
    · obtain rfl : j = n := by omega
      have hzz : ∀ i, 32 * (mp + (j : Int)) ≤ i → G i = 0 := fun i h1 => HH.out.high h1
      obtain ⟨X, hX⟩ : ∃ X, X = max (32 * (mp + (j : Int))) 10001 := ⟨_, rfl⟩
      have hcX : cum G X = cum G (32 * (mp + (j : Int))) := cum_same G _ _ (by omega) (fun i h1 h2 => hzz i h1)
      have hcur2 : Hid (Cur G bs r X bp) := hcur.out.skip X (by omega) (fun i h1 h2 => hzz i h1)
      have HXT : Hid (cum G X = tot2 G) := by
        show _ = _
        by_cases c : X ≤ 10001
        · rw [show X = 10001 from by omega]; rfl
        · rw [tot2_def, cum_same G 10001 X (by omega) (fun i h1 h2 => HZ.out i (.inr (by omega)))]
      have HX1 : Hid (10001 ≤ X) := by show _ ≤ _; omega
      rw [← hcX]
      clear hlt hj hcX hX hzz hcur
      go_wp2
      go_loopw [6, 7] (fun v b wr2 => KeyP3 G bs r X wr wr2 v b) (fun _ b _ => bs.length - (intOf b).toNat)
      case atStart => exact ⟨bp, rfl, rfl, hcur2, rfl⟩
      case round =>
        obtain ⟨bp, rfl, rfl, hcur, rfl⟩ := hrel
        have hble := hcur.out.le
        by_cases hmore : bp < bs.length
        · obtain ⟨gb, hao, hbc⟩ := HBC.out (by omega)
          subst hao
          have cb0 := hbc bp hmore
          have hmI : (bp : Int) < ((bs.length : Nat) : Int) := by omega
          have hless : bs[bp] < X := by have := (HI.out bs[bp] (List.getElem_mem hmore)).2; have := HX1.out; omega
          have hadd := fun w : World => run_float_arith (P := Tryz.prog) w .add 30 .f64 _ _ _ (nf_add (cum G X + bp) 1 (by have := HC.out X; have := HT.out; omega))
          rw [nf_one, Nat.add_assoc] at hadd
          have i4 : IntKind.i64.wrap ((bp : Int) + 1) = (bp : Int) + 1 := by rw [IntKind.wrap_i64]; omega
          have HPR1 := HPR (nf (cum G X + (bp + 1)))
          have HKY : Hid (fgt2 (nf (cum G X + (bp + 1))) r = true → KeyIs (both G bs) r bs[bp]) := fun hy => hcur.out.found HI.out HS.out HZ.out (by have := HT.out; omega) hmore hless hy
          have HTK : Hid (fgt2 (nf (cum G X + (bp + 1))) r = false → Cur G bs r X (bp + 1)) := fun hy => hcur.out.take hmore hless hy
          obtain ⟨s, hs⟩ : ∃ s, s = nf (cum G X + (bp + 1)) := ⟨_, rfl⟩
          obtain ⟨z, hz⟩ : ∃ z, z = bs[bp] := ⟨_, rfl⟩
          rw [← hs] at hadd HPR1 HKY HTK
          rw [← hz] at cb0 HKY
          have HSS := Lib.hid hs
          clear hs hz hbc hcur hless
          cases hf : fgt2 s r
          · rw [hf] at HPR1
            have hcur2 := Lib.hid (HTK.out hf)
            clear HKY HTK hf
            go_wp2_with (go_at_call 318; (with_reducible refine HPR1.mono ?_); rintro e w' ⟨rfl, rfl⟩)
            go_roundw
            case rel => exact ⟨bp + 1, by go_num, by rw [HSS.out], hcur2, rfl⟩
            case measure => simp [intOf]; omega
          · rw [hf] at HPR1
            have hres := Lib.hid (HKY.out hf)
            clear HKY HTK hf
            go_wp2_with (go_at_call 318; (with_reducible refine HPR1.mono ?_); rintro e w' ⟨rfl, rfl⟩)
            go_ret2
            exact ⟨bs, _, rfl, by rw [← HBOTH.out]; exact hres.out, HPERM.out, HH.out, HFR.out⟩
        · exfalso
          have h1 := hcur.out.no
          rw [HXT.out, show bp = bs.length from by omega, HR2.out] at h1
          cases h1
end Go.Proofs.YtnmbjalojgccmaaGreat
end
/-
  The store with pages: KeyAtRank itself.
-/
section
namespace Go.Proofs.YtnmbjalojgccmaaGreat
open Go.RowKit
variable {tg : Int}

set_option maxRecDepth 100000 in
set_option maxHeartbeats 400000 in
theorem keyP_any (G : Int → Nat) (bs : List Int) (q : Int → Option (Nat × Nat)) (mp : Int) (n p : Nat) (bufv pgs : Value) (r : Nat) (w : World) (h : Paged tg G bs q mp n p bufv pgs w)
   (hI : InI bs) (hz : ∀ i, i < -10000 ∨ 10000 < i → G i = 0) (hT : tot2 G + bs.length < 1000000000) (hr0 : (FloatKind.f64.format.order r 0 == some .lt) = false) (hr1 : fgt2 (nf 0) r = false) (hr2 : fgt2 (nf (tot2 G + bs.length)) r = true) :
    Calls Tryz.prog 305 #[.pointer (some ⟨p, 0, none⟩), .float .f64 r] w fun e w' => KeyGiven tg G bs q mp n p bufv pgs r (fun K => .int .i64 K) w e w' := by
  have hnew : (w.alloc (.cells #[.float .f64 r] 30)).heap[w.heap.size]? = some (.cells #[.float .f64 r] 30 (0, 0)) := heap_alloc_new w _
  have hg : w.grownBy (w.alloc (.cells #[.float .f64 r] 30)) none := World.grownBy_alloc w _ none
  have HC := cumul_any G bs q mp n p bufv pgs r w.heap.size (w.alloc (.cells #[.float .f64 r] 30)) (h.grown hg) hnew hI hz hT hr1 hr2
  have HG := Lib.hid hg
  clear h hI hz hT hr1 hr2 hnew hg
  go_enter Tryz.func305, Tryz.ntmps305
  go_wp2_with (go_at_call 317; (with_reducible refine HC.mono ?_); rintro e w1 ⟨bs', K, rfl, hk, hp, hP, hf⟩; have HK := Lib.hid hk; have HPM := Lib.hid hp; have HP := Lib.hid hP; have HF := Lib.hid hf; clear hk hp hP hf HC)
  go_ret
  exact ⟨bs', K, rfl, HK.out, HPM.out, HP.out, (⟨HG.out.os, HG.out.tape, HG.out.output, HG.out.size, fun k hk _ => HG.out.block k hk (by simp)⟩ : Fr (fun _ => False) w _).trans HF.out (fun _ _ h => h.elim) (fun _ _ h => h)⟩
end Go.Proofs.YtnmbjalojgccmaaGreat
end
