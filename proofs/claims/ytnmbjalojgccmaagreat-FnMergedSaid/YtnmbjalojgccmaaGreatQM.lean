/-
  extendRange of the store whose lowest bins are put together.
-/
import Derived.Test.YtnmbjalojgccmaaGreatQL
section
namespace Go.Proofs.YtnmbjalojgccmaaGreat
open Go.RowKit

/-- What stands behind the five fields. -/
def lrest (most : Nat) (col : Bool) : List Value := [.int .i64 (most : Int), .bool col]

/-- Behind adjust, and behind the range's extension. -/
def AdjustedL (f : Int → Nat) (c : Value) (most : Nat) (col : Bool) (nmn nmx lo : Int) (p : Nat) (g : Option Nat) (T : TypeId) (w : World) (e : Ending) (w' : World) : Prop :=
  ∃ g' L cp, e = .returned (.tuple #[]) ∧ DenseOk (sqL f lo) c (max nmn lo) nmx p g' L cp (lrest most (col || decide ((most : Int) < nmx - nmn + 1))) T w' ∧ p ≠ g' ∧ L ≤ most ∧ Fr (fun b => b = p ∨ g = some b) w w' ∧ (g = some g' ∨ w.heap.size ≤ g')

theorem adjustL_any (f : Int → Nat) (n most : Nat) (col : Bool) (mn mx nmn nmx lo : Int) (p g L cp : Nat) (T : TypeId) (w : World) (h : DenseOk f (.float .f64 (nf n)) mn mx p g L cp (lrest most col) T w) (hpg : p ≠ g)
   (hf : ∀ i, i < mn ∨ mx < i → f i = 0) (hn : n = tot2 f) (hs : n < 9007199254740992) (h1 : mn ≤ mx) (h2 : nmn ≤ mn) (h3 : mx ≤ nmx) (hlo : lo = nmx - most + 1) (hL : 0 < L) (hm : L ≤ most) (hk : nmx - nmn + 1 ≤ L ∨ L = most) (b1 : -10000 ≤ nmn) (b2 : nmx ≤ 10000) (b3 : most ≤ 50000) :
    Calls Tryz.prog 333 #[.pointer (some ⟨p, 0, none⟩), .int .i64 nmn, .int .i64 nmx] w fun e w' => AdjustedL f (.float .f64 (nf n)) most col nmn nmx lo p (some g) T w e w' := by
  by_cases hw : (L : Int) < nmx - nmn + 1
  · have hLm : L = most := hk.resolve_left (by omega)
    subst hLm
    refine (adjustL_wide f n L col mn mx nmn nmx lo p g L cp T w h hpg hf hn hs h1 h2 h3 hw hlo hL b1 b2 b3).mono ?_
    rintro e w' ⟨g', cp', rfl, hd, hpg', hfr, hg⟩
    refine ⟨g', L, cp', rfl, ?_, hpg', Nat.le_refl _, hfr.mono (fun i _ h => h.elim .inl (fun h => .inr (by rw [h]))), hg.elim (fun h => .inl (by rw [h])) .inr⟩
    rw [show max nmn lo = lo from by omega, decide_eq_true hw, Bool.or_true]
    exact hd
  · refine (adjustL_fit f (.float .f64 (nf n)) mn mx nmn nmx p g L cp (lrest most col) T w h hpg hf h1 h2 h3 (by omega) (by omega) (by omega) (by omega)).mono ?_
    rintro e w' ⟨rfl, hd, hfr⟩
    refine ⟨g, L, cp, rfl, ?_, hpg, hm, hfr.mono (fun i _ h => h.elim .inl (fun h => .inr (by rw [h]))), .inl rfl⟩
    rw [sqL_none f lo (fun i hi => hf i (by omega)) (fun i hi => hf i (by omega)), show max nmn lo = nmn from by omega, decide_eq_false (by omega), Bool.or_false]
    exact hd

set_option maxRecDepth 100000 in
set_option maxHeartbeats 1000000 in
theorem extendLE_any (most : Nat) (i : Int) (p : Nat) (T : TypeId) (w : World) (h : DEmpty p (lrest most false) T w) (hm0 : 1 ≤ most) (hm : most ≤ 500) (b1 : -10000 ≤ i) (b2 : i ≤ 10000) :
    Calls Tryz.prog 331 #[.pointer (some ⟨p, 0, none⟩), .int .i64 i, .int .i64 i] w fun e w' => AdjustedL (fun _ => 0) (.float .f64 0) most false i i (i - most + 1) p none T w e w' := by
  obtain ⟨d0, d1, d2, d3, d4⟩ := h.cells
  have d5 := h.cells2.1
  have H1 := fun w => minI_any i 2147483647 w
  rw [show min i 2147483647 = i from by omega] at H1
  have H2 := fun w => maxI_any i (-2147483648) w
  rw [show max i (-2147483648) = i from by omega] at H2
  have H3 := isEmptyD_any p 0 (by decide) w (by rw [nf_zero]; exact d1)
  rw [show ((0 : Nat) == 0) = true from rfl] at H3
  have H4 := newLenL_any 1 most i i p w d5 (by omega) (by omega) (by omega) (by omega) (by omega)
  have f0 := h.free 0
  have HH := Lib.hid h
  clear h d1 d5
  go_enter Tryz.func331, Tryz.ntmps331
  go_wp2_with fail
  refine (H1 _).mono ?_
  rintro e w' ⟨rfl, rfl⟩
  go_wp2_with fail
  refine (H2 _).mono ?_
  rintro e w' ⟨rfl, rfl⟩
  go_wp2_with fail
  refine H3.mono ?_
  rintro e w' ⟨rfl, rfl⟩
  go_wp2_with fail
  refine H4.mono ?_
  rintro e w' ⟨k, hk1, hk2, rfl, nd, rfl⟩
  have hk3 : 0 < k := by omega
  have hz0 : (0 : Nat) + k = k := Nat.zero_add k
  obtain ⟨w0, hw0⟩ : ∃ w0, w0 = w.drewN nd := ⟨_, rfl⟩
  have hh0 : DEmpty p (lrest most false) T w0 := by rw [hw0]; exact HH.out.drewN nd
  have hz1 : w.heap.size = w0.heap.size := by rw [hw0]; rfl
  have hfw : Fr (fun b => b = p ∨ (none : Option Nat) = some b) w w0 := by rw [hw0]; exact (Fr.refl _ w).drewN nd
  rw [← hw0]
  clear hw0 d0 d2 d3 d4 HH f0
  obtain ⟨d0, -, d2, d3, d4⟩ := hh0.cells
  have f0 := hh0.free 0
  have HH := Lib.hid hh0
  have HFW := Lib.hid hfw
  have HZ1 := Lib.hid hz1
  clear hh0 hfw hz1
  go_wp2_with (at_builtin; refine wpList_append_fz w0 rfl _ _ 23 3 rfl Tryz.underlying23 Tryz.underlying3 Tryz.infoF64 (.slice none 0 0) 0 k (fun _ => 0) rfl rfl (.inl ⟨rfl, rfl⟩) hk3 (by omega) (by omega) ?_; intro v' w1 hgr; obtain ⟨g, cp, rfl, hrow, hgrow, hg⟩ := hgr; rw [hz0] at hrow; rw [hz0]; have hd1 := HH.out.fr (S := fun _ => False) ⟨hgrow.os, hgrow.tape, hgrow.output, hgrow.size, fun k hk _ => hgrow.block k hk (by simp [Value.ownBlock])⟩ (fun h => h); have e0 := hd1.free 0; have e2 := hd1.free 2; have e3 := hd1.free 3; have e4 := hd1.free 4; obtain ⟨q0, -, q2, q3, q4⟩ := hd1.cells; have HD1 := Lib.hid hd1; have HGR := Lib.hid hgrow; have HRW := Lib.hid hrow; have HG := Lib.hid hg; clear hd1 hgrow hrow hg f0 d0 d2 d3 d4)
  have hpl : p < w0.heap.size := HH.out.lt
  obtain rfl : g = w0.heap.size := by
    rcases HG.out with h | h
    · simp [Value.ownBlock] at h
    · exact h
  have hpg : p ≠ w0.heap.size := by omega
  have hfr : Fr (fun b => b = p ∨ (none : Option Nat) = some b) w0 w1 := ⟨HGR.out.os, HGR.out.tape, HGR.out.output, HGR.out.size, fun k hk _ => HGR.out.block k hk (by simp [Value.ownBlock])⟩
  have hd5 := (((HD1.out.set0 (.slice (some ⟨w0.heap.size, 0, none⟩) k cp)).set2 (.int .i64 i)).set3 (.int .i64 i)).set4 (.int .i64 i)
  have hr5 := (((HRW.out.other (p := ⟨p, 0, none⟩) hpg (.slice (some ⟨w0.heap.size, 0, none⟩) k cp)).other (p := ⟨p, 2, none⟩) hpg (.int .i64 i)).other (p := ⟨p, 3, none⟩) hpg (.int .i64 i)).other (p := ⟨p, 4, none⟩) hpg (.int .i64 i)
  have hf5 := (((hfr.setCell (p := ⟨p, 0, none⟩) (fun _ => .inl rfl) (.slice (some ⟨w0.heap.size, 0, none⟩) k cp)).setCell (p := ⟨p, 2, none⟩) (fun _ => .inl rfl) (.int .i64 i)).setCell (p := ⟨p, 3, none⟩) (fun _ => .inl rfl) (.int .i64 i)).setCell (p := ⟨p, 4, none⟩) (fun _ => .inl rfl) (.int .i64 i)
  revert hd5 hr5 hf5
  generalize (((w1.setCell ⟨p, 0, none⟩ (.slice (some ⟨w0.heap.size, 0, none⟩) k cp)).setCell ⟨p, 2, none⟩ (.int .i64 i)).setCell ⟨p, 3, none⟩ (.int .i64 i)).setCell ⟨p, 4, none⟩ (.int .i64 i) = W
  intro hd5 hr5 hf5
  have hok : DenseOk (fun _ => 0) (.float .f64 (nf 0)) i i p w0.heap.size k cp (lrest most false) T W :=
    ⟨i, by rw [nf_zero]; exact hd5, hr5.ext (fun j _ => by split <;> rfl), Int.le_refl _, by omega, by omega, by omega⟩
  have H5 := adjustL_any (fun _ => 0) 0 most false i i i i (i - most + 1) p w0.heap.size k cp T W hok hpg (fun _ _ => rfl) (by rw [tot2_def, cum_none _ _ (fun _ _ => rfl)]) (by decide) (Int.le_refl _) (Int.le_refl _) (Int.le_refl _) rfl hk3 hk2 (by omega) (by omega) (by omega) (by omega)
  rw [nf_zero] at H5
  have HF5 := Lib.hid hf5
  clear hd5 hr5 hf5 hok hfr q0 q2 q3 q4 e0 e2 e3 e4
  refine H5.mono ?_
  clear H5
  rintro e w6 ⟨g', L, cp', rfl, hd6, hpg', hL, hf6, hg6⟩
  have HD6 := Lib.hid hd6
  have HF6 := Lib.hid hf6
  have HG6 := Lib.hid hg6
  clear hd6 hf6 hg6
  go_wp2
  go_end0
  refine ⟨g', L, cp', rfl, HD6.out, hpg', hL, (HFW.out.trans HF5.out (fun _ _ h => h) (fun _ _ h => h)).trans HF6.out (fun _ _ h => h) (fun i hi h => h.elim .inl (fun h => ?_)), .inr ?_⟩
  · have : w0.heap.size = i := Option.some.inj h
    have := HZ1.out
    omega
  · have hz := HZ1.out
    rcases HG6.out with h | h
    · have := Option.some.inj h; omega
    · have := HF5.out.size; omega

/-- What the extension of a store with counts calls for, ahead of the row. -/
structure LowPre (f : Int → Nat) (n most : Nat) (col : Bool) (mn mx : Int) (p g L cp : Nat) (T : TypeId) (w : World) : Prop where
  ok : DenseOk f (.float .f64 (nf n)) mn mx p g L cp (lrest most col) T w
  ne : p ≠ g
  zero : ∀ i, i < mn ∨ mx < i → f i = 0
  le : mn ≤ mx
  pos : 0 < n
  lt : n < 9007199254740992
  tot : n = tot2 f
  lo : -10000 ≤ mn
  hi : mx ≤ 10000
  len : L ≤ most
  most0 : 1 ≤ most
  most1 : most ≤ 500
  full : col = true → mx - mn + 1 = most

theorem AdjustedL.of_in {f : Int → Nat} {c : Value} {most : Nat} {col : Bool} {na nb lo : Int} {p g L cp : Nat} {T : TypeId} {w w' : World} (h : DenseOk f c na nb p g L cp (lrest most col) T w')
   (hpg : p ≠ g) (hL : L ≤ most) (hfr : Fr (fun b => b = p ∨ some g = some b) w w') (hz : ∀ i, i < na → f i = 0) (hna : -10000 ≤ na) (hd : nb - na + 1 ≤ most) (hlo : lo = nb - most + 1) :
    AdjustedL f c most col na nb lo p (some g) T w (.returned (.tuple #[])) w' := by
  refine ⟨g, L, cp, rfl, ?_, hpg, hL, hfr, .inl rfl⟩
  rw [sqL_none f lo (fun i hi => hz i (by omega)) (fun i hi => hz i (by omega)), show max na lo = na from by omega, decide_eq_false (by omega), Bool.or_false]
  exact h

set_option maxRecDepth 100000 in
set_option maxHeartbeats 1000000 in
theorem extendLF_any (f : Int → Nat) (n most : Nat) (col : Bool) (a b mn mx na nb lo : Int) (p g L cp : Nat) (T : TypeId) (w : World) (h : LowPre f n most col mn mx p g L cp T w) (b1 : -10000 ≤ a) (b2 : b ≤ 10000) (ha : na = min a mn) (hb : nb = max b mx) (hlo : lo = nb - most + 1) :
    Calls Tryz.prog 331 #[.pointer (some ⟨p, 0, none⟩), .int .i64 a, .int .i64 b] w fun e w' => AdjustedL f (.float .f64 (nf n)) most col na nb lo p (some g) T w e w' := by
  obtain ⟨⟨off, hd, hr, o1, o2, o3, o4⟩, hpg, hz, hle, hp0, hp1, htot, hlo', hhi, hL, hm0, hm1, -⟩ := h
  obtain ⟨d0, d1, d2, d3, d4⟩ := hd.cells
  have d5 := hd.cells2.1
  obtain ⟨d, hdd⟩ : ∃ d : Nat, nb - na + 1 = (d : Int) := ⟨(nb - na + 1).toNat, by omega⟩
  have H1 := fun w => minI_any a mn w
  rw [← ha] at H1
  have H2 := fun w => maxI_any b mx w
  rw [← hb] at H2
  have H3 := isEmptyD_any p n hp1 w d1
  rw [show (n == 0) = false from by simp; omega] at H3
  have H4 := fun nq => newLenL_any d most na nb p (w.drewN nq) d5 (by omega) (by omega) hdd (by omega) (by omega)
  have f0 := hd.free 0
  have f3 := hd.free 3
  have f4 := hd.free 4
  have g1 : -10000 ≤ na := by omega
  have g2 : nb ≤ 10000 := by omega
  have g3 : na ≤ mn := by omega
  have g4 : mx ≤ nb := by omega
  have HDD := Lib.hid hdd
  have HD := Lib.hid hd
  have HR := Lib.hid hr
  have HZ := Lib.hid hz
  have HTOT := Lib.hid htot
  have HP1 := Lib.hid hp1
  have HLO := Lib.hid hlo
  have i1 : IntKind.i64.wrap (off + (L : Int)) = off + (L : Int) := by rw [IntKind.wrap_i64]; omega
  obtain ⟨c0, hc0⟩ : ∃ c0, c0 = nf n := ⟨_, rfl⟩
  have HC := Lib.hid hc0
  rw [← hc0]
  clear hdd hd hr hz htot hp1 hlo d1 d5 ha hb b1 b2 hc0
  by_cases hc1 : off ≤ na
  · by_cases hc2 : nb < off + (L : Int)
    · have q1 : decide (off ≤ na) = true := by simpa using hc1
      have q2 : decide (nb < off + (L : Int)) = true := by simpa using hc2
      go_enter Tryz.func331, Tryz.ntmps331
      go_wp2_with (first | (go_at_call 231; (with_reducible refine (H1 _).mono ?_); rintro e w' ⟨rfl, rfl⟩) | (go_at_call 232; (with_reducible refine (H2 _).mono ?_); rintro e w' ⟨rfl, rfl⟩) | (go_at_call 205; (with_reducible refine H3.mono ?_); rintro e w' ⟨rfl, rfl⟩))
      go_quiet (fail)
      go_wp2
      go_end0
      rw [HC.out]
      refine AdjustedL.of_in (L := L) (cp := cp) ⟨off, ((HD.out.drewN nq).set3 _).set4 _, ((HR.out.drewN nq).other hpg _).other hpg _, hc1, hc2, o3, o4⟩ hpg hL ?_ (fun i hi => HZ.out i (.inl (by omega))) g1 (by omega) HLO.out
      exact (((Fr.refl _ w).drewN nq).setCell (fun _ => .inl rfl) _).setCell (fun _ => .inl rfl) _
    · have q1 : decide (off ≤ na) = true := by simpa using hc1
      have q2 : decide (nb < off + (L : Int)) = false := by simpa using hc2
      go_enter Tryz.func331, Tryz.ntmps331
      go_wp2_with (first | (go_at_call 231; (with_reducible refine (H1 _).mono ?_); rintro e w' ⟨rfl, rfl⟩) | (go_at_call 232; (with_reducible refine (H2 _).mono ?_); rintro e w' ⟨rfl, rfl⟩) | (go_at_call 205; (with_reducible refine H3.mono ?_); rintro e w' ⟨rfl, rfl⟩))
      go_quiet (fail)
      go_wp2_with fail
      refine (H4 _).mono ?_
      rintro e w' ⟨k, hk1, hk2, rfl, nd, rfl⟩
      obtain ⟨w0, hw0⟩ : ∃ w0, w0 = (w.drewN nq).drewN nd := ⟨_, rfl⟩
      have HD0 : Hid (DS w0 p (lrest most col) T (.slice (some ⟨g, 0, none⟩) L cp) (.float .f64 (nf n)) (.int .i64 off) (.int .i64 mn) (.int .i64 mx)) := by show DS _ _ _ _ _ _ _ _ _; rw [hw0]; exact (HD.out.drewN nq).drewN nd
      have HR0 : Hid (Row w0 g L cp (fun j => f (off + j))) := by show Row _ _ _ _ _; rw [hw0]; exact (HR.out.drewN nq).drewN nd
      have HF0 : Hid (Fr (fun b => b = p ∨ (some g : Option Nat) = some b) w w0) := by show Fr _ _ _; rw [hw0]; exact ((Fr.refl _ w).drewN nq).drewN nd
      have hz0 : w.heap.size = w0.heap.size := by rw [hw0]; rfl
      have HZ0 := Lib.hid hz0
      rw [← hw0]
      clear hw0 hz0 d0 d2 d3 d4 HD HR
      obtain ⟨d0, -, d2, d3, d4⟩ := HD0.out.cells
      clear d2 d3 d4
      by_cases hkL : L < k
      · obtain ⟨m, rfl⟩ : ∃ m, k = L + m := ⟨k - L, by omega⟩
        have hm0 : 0 < m := by omega
        have hm1 : (0 : Int) < (m : Int) := by omega
        have j1 : IntKind.i64.wrap ((L : Int) + (m : Int) - (L : Int)) = (m : Int) := by rw [IntKind.wrap_i64]; omega
        have j2 : IntKind.i64.wrap (m : Int) = (m : Int) := by rw [IntKind.wrap_i64]; omega
        go_wp2
        go_region_law (rw [if_pos (by rfl)]; refine wp_append_fz (w0.drew) _ _ 23 3 rfl Tryz.underlying23 Tryz.underlying3 Tryz.infoF64 (.slice (some ⟨g, 0, none⟩) L cp) L m (fun j => f (off + j)) rfl rfl (.inr ⟨g, cp, rfl, HR0.out.drew⟩) hm0 (by omega) (by omega) ?_; intro v' w1 hgr; obtain ⟨g', cp', rfl, hrow, hgrow, hg⟩ := hgr; have hd1 := HD0.out.fr (S := fun b => b = g) ⟨hgrow.os, hgrow.tape, hgrow.output, hgrow.size, fun b hb hn => hgrow.block b hb (by simpa [Value.ownBlock] using hn)⟩ hpg; have e0 := hd1.free 0; obtain ⟨q0, -, q2, q3, q4⟩ := hd1.cells; have HD1 := Lib.hid hd1; have HGR := Lib.hid hgrow; have HRW := Lib.hid hrow; have HG := Lib.hid hg; clear hd1 hgrow hrow hg f0 d0)
        all_goals
          have hg' : g' = g ∨ w.heap.size ≤ g' := by
            rcases HG.out with h | h
            · left; simp [Value.ownBlock] at h; exact h.symm
            · right; rw [h, HZ0.out]; exact Nat.le_refl _
          have hpl : p < w.heap.size := by rw [HZ0.out]; exact HD0.out.lt
          have hpg' : p ≠ g' := by omega
          have hfr : Fr (fun b => b = p ∨ (some g : Option Nat) = some b) w w1 := HF0.out.trans (T := fun b => b = p ∨ (some g : Option Nat) = some b) ⟨HGR.out.os, HGR.out.tape, HGR.out.output, HGR.out.size, fun b hb hn => HGR.out.block b hb (by simp [Value.ownBlock]; intro e; exact hn (.inr (by rw [e])))⟩ (fun _ _ h => h) (fun _ _ h => h)
          have hd5 := HD1.out.set0 (.slice (some ⟨g', 0, none⟩) (L + m) cp')
          have hr5 := HRW.out.other (p := ⟨p, 0, none⟩) hpg' (.slice (some ⟨g', 0, none⟩) (L + m) cp')
          have hf5 := hfr.setCell (p := ⟨p, 0, none⟩) (fun _ => .inl rfl) (.slice (some ⟨g', 0, none⟩) (L + m) cp')
          revert hd5 hr5 hf5
          generalize w1.setCell ⟨p, 0, none⟩ (.slice (some ⟨g', 0, none⟩) (L + m) cp') = W
          intro hd5 hr5 hf5
          have hok : DenseOk f (.float .f64 (nf n)) mn mx p g' (L + m) cp' (lrest most col) T W :=
            ⟨off, hd5, hr5.ext (fun j _ => by by_cases hj : (j : Int) < (L : Int); · rw [if_pos hj]
                                              · rw [if_neg hj]; exact (HZ.out _ (by omega)).symm), o1, by omega, o3, o4⟩
          have H5 := adjustL_any f n most col mn mx na nb lo p g' (L + m) cp' T W hok hpg' HZ.out HTOT.out HP1.out hle g3 g4 HLO.out (by omega) hk2 (by have := HDD.out; omega) g1 g2 (by omega)
          have HF5 := Lib.hid hf5
          clear hd5 hr5 hf5 hok hfr q0 q2 q3 q4 e0
          go_wp2_with (go_at_call 333; (with_reducible refine H5.mono ?_); rintro e w6 ⟨g6, L6, cp6, rfl, hd6, hpg6, hL6, hf6, hg6⟩; have HD6 := Lib.hid hd6; have HF6 := Lib.hid hf6; have HG6 := Lib.hid hg6; clear hd6 hf6 hg6)
          go_end0
          rw [HC.out]
          refine ⟨g6, L6, cp6, rfl, HD6.out, hpg6, hL6, HF5.out.trans HF6.out (fun _ _ h => h) ?_, ?_⟩
          · intro i hi h
            rcases h with h | h
            · exact .inl h
            · have h3 := Option.some.inj h
              rcases hg' with h2 | h2
              · exact .inr (by rw [← h3, h2])
              · omega
          · rcases HG6.out with h | h
            · have h3 := Option.some.inj h
              rcases hg' with h2 | h2
              · exact .inl (by rw [← h3, h2])
              · exact .inr (by omega)
            · exact .inr (by have := HF5.out.size; omega)
      · have H5 := adjustL_any f n most col mn mx na nb lo p g L cp T w0 ⟨off, HD0.out, HR0.out, o1, o2, o3, o4⟩ hpg HZ.out HTOT.out HP1.out hle g3 g4 HLO.out (by omega) hL (by have := HDD.out; omega) g1 g2 (by omega)
        have hkL2 : ¬ (L : Int) < (k : Int) := by omega
        go_wp2_with (go_at_call 333; (with_reducible refine H5.mono ?_); rintro e w6 ⟨g6, L6, cp6, rfl, hd6, hpg6, hL6, hf6, hg6⟩; have HD6 := Lib.hid hd6; have HF6 := Lib.hid hf6; have HG6 := Lib.hid hg6; clear hd6 hf6 hg6)
        go_end0
        rw [HC.out]
        exact ⟨g6, L6, cp6, rfl, HD6.out, hpg6, hL6, HF0.out.trans HF6.out (fun _ _ h => h) (fun _ _ h => h), HG6.out.elim .inl (fun h => .inr (by rw [HZ0.out]; exact h))⟩
  · have q1 : decide (off ≤ na) = false := by simpa using hc1
    go_enter Tryz.func331, Tryz.ntmps331
    go_wp2_with (first | (go_at_call 231; (with_reducible refine (H1 _).mono ?_); rintro e w' ⟨rfl, rfl⟩) | (go_at_call 232; (with_reducible refine (H2 _).mono ?_); rintro e w' ⟨rfl, rfl⟩) | (go_at_call 205; (with_reducible refine H3.mono ?_); rintro e w' ⟨rfl, rfl⟩))
    go_quiet (fail)
    go_wp2_with fail
    refine (H4 _).mono ?_
    rintro e w' ⟨k, hk1, hk2, rfl, nd, rfl⟩
    obtain ⟨w0, hw0⟩ : ∃ w0, w0 = (w.drewN nq).drewN nd := ⟨_, rfl⟩
    have HD0 : Hid (DS w0 p (lrest most col) T (.slice (some ⟨g, 0, none⟩) L cp) (.float .f64 (nf n)) (.int .i64 off) (.int .i64 mn) (.int .i64 mx)) := by show DS _ _ _ _ _ _ _ _ _; rw [hw0]; exact (HD.out.drewN nq).drewN nd
    have HR0 : Hid (Row w0 g L cp (fun j => f (off + j))) := by show Row _ _ _ _ _; rw [hw0]; exact (HR.out.drewN nq).drewN nd
    have HF0 : Hid (Fr (fun b => b = p ∨ (some g : Option Nat) = some b) w w0) := by show Fr _ _ _; rw [hw0]; exact ((Fr.refl _ w).drewN nq).drewN nd
    have hz0 : w.heap.size = w0.heap.size := by rw [hw0]; rfl
    have HZ0 := Lib.hid hz0
    rw [← hw0]
    clear hw0 hz0 d0 d2 d3 d4 HD HR
    obtain ⟨d0, -, d2, d3, d4⟩ := HD0.out.cells
    clear d2 d3 d4
    by_cases hkL : L < k
    · obtain ⟨m, rfl⟩ : ∃ m, k = L + m := ⟨k - L, by omega⟩
      have hm0 : 0 < m := by omega
      have hm1 : (0 : Int) < (m : Int) := by omega
      have j1 : IntKind.i64.wrap ((L : Int) + (m : Int) - (L : Int)) = (m : Int) := by rw [IntKind.wrap_i64]; omega
      have j2 : IntKind.i64.wrap (m : Int) = (m : Int) := by rw [IntKind.wrap_i64]; omega
      go_wp2
      go_region_law (rw [if_pos (by rfl)]; refine wp_append_fz (w0.drew) _ _ 23 3 rfl Tryz.underlying23 Tryz.underlying3 Tryz.infoF64 (.slice (some ⟨g, 0, none⟩) L cp) L m (fun j => f (off + j)) rfl rfl (.inr ⟨g, cp, rfl, HR0.out.drew⟩) hm0 (by omega) (by omega) ?_; intro v' w1 hgr; obtain ⟨g', cp', rfl, hrow, hgrow, hg⟩ := hgr; have hd1 := HD0.out.fr (S := fun b => b = g) ⟨hgrow.os, hgrow.tape, hgrow.output, hgrow.size, fun b hb hn => hgrow.block b hb (by simpa [Value.ownBlock] using hn)⟩ hpg; have e0 := hd1.free 0; obtain ⟨q0, -, q2, q3, q4⟩ := hd1.cells; have HD1 := Lib.hid hd1; have HGR := Lib.hid hgrow; have HRW := Lib.hid hrow; have HG := Lib.hid hg; clear hd1 hgrow hrow hg f0 d0)
      all_goals
        have hg' : g' = g ∨ w.heap.size ≤ g' := by
          rcases HG.out with h | h
          · left; simp [Value.ownBlock] at h; exact h.symm
          · right; rw [h, HZ0.out]; exact Nat.le_refl _
        have hpl : p < w.heap.size := by rw [HZ0.out]; exact HD0.out.lt
        have hpg' : p ≠ g' := by omega
        have hfr : Fr (fun b => b = p ∨ (some g : Option Nat) = some b) w w1 := HF0.out.trans (T := fun b => b = p ∨ (some g : Option Nat) = some b) ⟨HGR.out.os, HGR.out.tape, HGR.out.output, HGR.out.size, fun b hb hn => HGR.out.block b hb (by simp [Value.ownBlock]; intro e; exact hn (.inr (by rw [e])))⟩ (fun _ _ h => h) (fun _ _ h => h)
        have hd5 := HD1.out.set0 (.slice (some ⟨g', 0, none⟩) (L + m) cp')
        have hr5 := HRW.out.other (p := ⟨p, 0, none⟩) hpg' (.slice (some ⟨g', 0, none⟩) (L + m) cp')
        have hf5 := hfr.setCell (p := ⟨p, 0, none⟩) (fun _ => .inl rfl) (.slice (some ⟨g', 0, none⟩) (L + m) cp')
        revert hd5 hr5 hf5
        generalize w1.setCell ⟨p, 0, none⟩ (.slice (some ⟨g', 0, none⟩) (L + m) cp') = W
        intro hd5 hr5 hf5
        have hok : DenseOk f (.float .f64 (nf n)) mn mx p g' (L + m) cp' (lrest most col) T W :=
          ⟨off, hd5, hr5.ext (fun j _ => by by_cases hj : (j : Int) < (L : Int); · rw [if_pos hj]
                                            · rw [if_neg hj]; exact (HZ.out _ (by omega)).symm), o1, by omega, o3, o4⟩
        have H5 := adjustL_any f n most col mn mx na nb lo p g' (L + m) cp' T W hok hpg' HZ.out HTOT.out HP1.out hle g3 g4 HLO.out (by omega) hk2 (by have := HDD.out; omega) g1 g2 (by omega)
        have HF5 := Lib.hid hf5
        clear hd5 hr5 hf5 hok hfr q0 q2 q3 q4 e0
        go_wp2_with (go_at_call 333; (with_reducible refine H5.mono ?_); rintro e w6 ⟨g6, L6, cp6, rfl, hd6, hpg6, hL6, hf6, hg6⟩; have HD6 := Lib.hid hd6; have HF6 := Lib.hid hf6; have HG6 := Lib.hid hg6; clear hd6 hf6 hg6)
        go_end0
        rw [HC.out]
        refine ⟨g6, L6, cp6, rfl, HD6.out, hpg6, hL6, HF5.out.trans HF6.out (fun _ _ h => h) ?_, ?_⟩
        · intro i hi h
          rcases h with h | h
          · exact .inl h
          · have h3 := Option.some.inj h
            rcases hg' with h2 | h2
            · exact .inr (by rw [← h3, h2])
            · omega
        · rcases HG6.out with h | h
          · have h3 := Option.some.inj h
            rcases hg' with h2 | h2
            · exact .inl (by rw [← h3, h2])
            · exact .inr (by omega)
          · exact .inr (by have := HF5.out.size; omega)
    · have H5 := adjustL_any f n most col mn mx na nb lo p g L cp T w0 ⟨off, HD0.out, HR0.out, o1, o2, o3, o4⟩ hpg HZ.out HTOT.out HP1.out hle g3 g4 HLO.out (by omega) hL (by have := HDD.out; omega) g1 g2 (by omega)
      have hkL2 : ¬ (L : Int) < (k : Int) := by omega
      go_wp2_with (go_at_call 333; (with_reducible refine H5.mono ?_); rintro e w6 ⟨g6, L6, cp6, rfl, hd6, hpg6, hL6, hf6, hg6⟩; have HD6 := Lib.hid hd6; have HF6 := Lib.hid hf6; have HG6 := Lib.hid hg6; clear hd6 hf6 hg6)
      go_end0
      rw [HC.out]
      exact ⟨g6, L6, cp6, rfl, HD6.out, hpg6, hL6, HF0.out.trans HF6.out (fun _ _ h => h) (fun _ _ h => h), HG6.out.elim .inl (fun h => .inr (by rw [HZ0.out]; exact h))⟩
end Go.Proofs.YtnmbjalojgccmaaGreat
end
/-
  normalize and AddWithCount of the store whose lowest bins are put together.
-/
section
namespace Go.Proofs.YtnmbjalojgccmaaGreat
open Go.RowKit

/-- Behind normalize: the place of the index in the row. -/
def NormedL (f : Int → Nat) (c : Value) (most : Nat) (col : Bool) (mn mx lo : Int) (p : Nat) (g : Option Nat) (T : TypeId) (t : Int) (w : World) (e : Ending) (w' : World) : Prop :=
  ∃ g' L cp off, e = .returned (.int .i64 (t - off)) ∧ DS w' p (lrest most col) T (.slice (some ⟨g', 0, none⟩) L cp) c (.int .i64 off) (.int .i64 mn) (.int .i64 mx) ∧ Row w' g' L cp (fun j => sqL f lo (off + j)) ∧ off ≤ mn ∧ mx < off + L ∧
    -1000000 ≤ off ∧ off ≤ 1000000 ∧ p ≠ g' ∧ L ≤ most ∧ Fr (fun b => b = p ∨ g = some b) w w' ∧ (g = some g' ∨ w.heap.size ≤ g')

theorem AdjustedL.normed {f : Int → Nat} {c : Value} {most : Nat} {col : Bool} {mn mx lo : Int} {p : Nat} {g : Option Nat} {T : TypeId} {w w' : World} {e : Ending} (h : AdjustedL f c most col mn mx lo p g T w e w') (hlo : lo = mx - most + 1) :
    e = .returned (.tuple #[]) ∧ ∃ off, w'.cell? ⟨p, 2, none⟩ = some (.int .i64 off) ∧ w'.cell? ⟨p, 3, none⟩ = some (.int .i64 (max mn lo)) ∧ w'.cell? ⟨p, 4, none⟩ = some (.int .i64 mx) ∧ w'.cell? ⟨p, 6, none⟩ = some (.bool (col || decide ((most : Int) < mx - mn + 1))) ∧ -1000000 ≤ off ∧ off ≤ 1000000 ∧
      ((most : Int) < mx - mn + 1 → off = max mn lo) ∧ ∀ t, NormedL f c most (col || decide ((most : Int) < mx - mn + 1)) (max mn lo) mx lo p g T t w (.returned (.int .i64 (t - off))) w' := by
  obtain ⟨g', L, cp, rfl, ⟨off, hd, hr, o1, o2, o3, o4⟩, hpg, hL, hf, hg⟩ := h
  exact ⟨rfl, off, hd.cells.2.2.1, hd.cells.2.2.2.1, hd.cells.2.2.2.2, hd.cells2.2, o3, o4, fun hw => by omega, fun t => ⟨g', L, cp, off, rfl, hd, hr, o1, o2, o3, o4, hpg, hL, hf, hg⟩⟩

set_option maxRecDepth 100000 in
set_option maxHeartbeats 400000 in
theorem normLE_any (most : Nat) (i : Int) (p : Nat) (T : TypeId) (w : World) (h : DEmpty p (lrest most false) T w) (hm0 : 1 ≤ most) (hm : most ≤ 500) (b1 : -10000 ≤ i) (b2 : i ≤ 10000) :
    Calls Tryz.prog 329 #[.pointer (some ⟨p, 0, none⟩), .int .i64 i] w fun e w' => NormedL (fun _ => 0) (.float .f64 0) most false i i (i - most + 1) p none T i w e w' := by
  obtain ⟨-, -, -, d3, d4⟩ := h.cells
  obtain ⟨-, d6⟩ := h.cells2
  have HX := extendLE_any most i p T w h hm0 hm b1 b2
  have hlt : i < 2147483647 := by omega
  have e1 : max i (i - most + 1) = i := by omega
  have e2 : (false || decide ((most : Int) < i - i + 1)) = false := by rw [decide_eq_false (by omega)]; rfl
  clear h
  go_enter Tryz.func329, Tryz.ntmps329
  go_wp2_with (go_at_call 331; (with_reducible refine HX.mono ?_); intro e w1 hx; obtain ⟨rfl, off, hc, hc3, hc4, hc6, o1, o2, -, hn⟩ := hx.normed rfl; rw [e2] at hc6; have HN := Lib.hid (hn i); clear hx hn d3 d4 d6)
  go_ret
  have h := HN.out
  rw [e1, e2] at h
  exact h

set_option maxRecDepth 100000 in
set_option maxHeartbeats 400000 in
theorem normLF_any (f : Int → Nat) (n most : Nat) (col : Bool) (i mn mx lo nb : Int) (p g L cp : Nat) (T : TypeId) (w : World) (h : LowPre f n most col mn mx p g L cp T w) (b1 : -10000 ≤ i) (b2 : i ≤ 10000) (hnb : nb = max i mx) (hlo : lo = nb - most + 1) :
    Calls Tryz.prog 329 #[.pointer (some ⟨p, 0, none⟩), .int .i64 i] w fun e w' => NormedL f (.float .f64 (nf n)) most (col || decide ((most : Int) < nb - min i mn + 1)) (max (min i mn) lo) nb lo p (some g) T (max i lo) w e w' := by
  obtain ⟨off, hd, hr, o1, o2, o3, o4⟩ := id h.ok
  obtain ⟨-, -, d2, d3, d4⟩ := hd.cells
  obtain ⟨-, d6⟩ := hd.cells2
  have HX := extendLF_any f n most col i i mn mx (min i mn) nb lo p g L cp T w h b1 b2 rfl hnb hlo
  have hle := h.le
  have hlen := h.len
  have hfull := h.full
  have hin : (mn ≤ i ∨ col = true) → i ≤ mx → NormedL f (.float .f64 (nf n)) most (col || decide ((most : Int) < nb - min i mn + 1)) (max (min i mn) lo) nb lo p (some g) T (max i lo) w (.returned (.int .i64 (max i lo - off))) w := by
    intro h1 h2
    have e1 : nb = mx := by omega
    have e2 : (col || decide ((most : Int) < nb - min i mn + 1)) = col := by
      rcases h1 with h1 | h1
      · rw [decide_eq_false (by omega), Bool.or_false]
      · rw [h1]; rfl
    have e3 : max (min i mn) lo = mn := by
      rcases h1 with h1 | h1
      · omega
      · have := hfull h1; omega
    rw [e2, e3, e1]
    refine ⟨g, L, cp, off, rfl, hd, hr.ext fun j _ => ?_, o1, o2, o3, o4, h.ne, h.len, Fr.refl _ _, .inl rfl⟩
    have hlm : lo ≤ mn := by rcases h1 with h1 | h1 <;> omega
    rw [sqL_none f lo (fun i hi => h.zero i (by omega)) (fun i hi => h.zero i (by have := h.lo; omega))]
  have HI := Lib.hid hin
  have HB : Hid (-10000 ≤ mn) := h.lo
  have HM := Lib.hid h.most0
  have HLO := Lib.hid hlo
  have HNB := Lib.hid hnb
  clear h hd hr hin
  by_cases h1 : i < mn
  · cases col with
    | true =>
      have hf := hfull rfl
      have e0 : (0 : Int) = max i lo - off := by omega
      have HN := Lib.hid (HI.out (.inr rfl) (by omega))
      rw [← e0] at HN
      clear HI HX hlo hnb e0 hfull hf
      go_enter Tryz.func329, Tryz.ntmps329
      go_wp2
      go_ret
      exact HN.out
    | false =>
      clear HI hlo hnb hfull
      by_cases hw : (most : Int) < nb - min i mn + 1
      · have e2 : (false || decide ((most : Int) < nb - min i mn + 1)) = true := by rw [decide_eq_true hw]; rfl
        go_enter Tryz.func329, Tryz.ntmps329
        go_wp2_with (go_at_call 331; (with_reducible refine HX.mono ?_); intro e w1 hx; obtain ⟨rfl, off2, hc, hc3, hc4, hc6, o5, o6, hoff, hn⟩ := hx.normed HLO.out; rw [e2] at hc6; have HOFF := Lib.hid (hoff hw); have HN := Lib.hid (hn (max i lo)); clear hx hn hoff d2 d3 d4 d6)
        go_ret
        have h := HN.out
        have e3 : (0 : Int) = max i lo - off2 := by have := HOFF.out; have := HLO.out; omega
        rw [← e3] at h
        exact h
      · have e2 : (false || decide ((most : Int) < nb - min i mn + 1)) = false := by rw [decide_eq_false hw]; rfl
        have e3 : max i lo = i := by have := HLO.out; omega
        have q1 : ¬ nb < i := by have := HNB.out; omega
        go_enter Tryz.func329, Tryz.ntmps329
        go_wp2_with (go_at_call 331; (with_reducible refine HX.mono ?_); intro e w1 hx; obtain ⟨rfl, off2, hc, hc3, hc4, hc6, o5, o6, hoff, hn⟩ := hx.normed HLO.out; rw [e2] at hc6; have HN := Lib.hid (hn i); clear hx hn hoff d2 d3 d4 d6)
        go_ret
        rw [e3]
        exact HN.out
  · by_cases h2 : mx < i
    · have e3 : max i lo = i := by have := HLO.out; have := HM.out; omega
      clear HI hlo hnb hfull
      go_enter Tryz.func329, Tryz.ntmps329
      go_wp2_with (go_at_call 331; (with_reducible refine HX.mono ?_); intro e w1 hx; obtain ⟨rfl, off2, hc, hc3, hc4, hc6, o5, o6, hoff, hn⟩ := hx.normed HLO.out; have HN := Lib.hid (hn i); clear hx hn hoff d2 d3 d4 d6)
      go_ret
      rw [e3]
      exact HN.out
    · have HN := Lib.hid (HI.out (.inl (by omega)) (by omega))
      have e3 : max i lo = i := by omega
      rw [e3] at HN ⊢
      clear HI HX hlo hnb hfull e3
      go_enter Tryz.func329, Tryz.ntmps329
      go_wp2
      go_ret
      exact HN.out

/-- Behind AddWithCount. -/
def AddedL (f : Int → Nat) (n most : Nat) (col : Bool) (mn mx : Int) (p : Nat) (g : Option Nat) (T : TypeId) (w : World) (e : Ending) (w' : World) : Prop :=
  ∃ g' L cp, e = .returned (.tuple #[]) ∧ DenseOk f (.float .f64 (nf n)) mn mx p g' L cp (lrest most col) T w' ∧ p ≠ g' ∧ L ≤ most ∧ Fr (fun b => b = p ∨ g = some b) w w' ∧ (g = some g' ∨ w.heap.size ≤ g')

set_option maxRecDepth 100000 in
set_option maxHeartbeats 400000 in
theorem addL_any (f : Int → Nat) (n c most : Nat) (col : Bool) (i t mn mx lo : Int) (p : Nat) (g : Option Nat) (T : TypeId) (w : World) (hc0 : 0 < c) (hs : n + c < 9007199254740992) (hfi : sqL f lo t ≤ n) (h1 : mn ≤ t) (h2 : t ≤ mx)
   (H : Calls Tryz.prog 329 #[.pointer (some ⟨p, 0, none⟩), .int .i64 i] w fun e w' => NormedL f (.float .f64 (nf n)) most col mn mx lo p g T t w e w') :
    Calls Tryz.prog 324 #[.pointer (some ⟨p, 0, none⟩), .int .i64 i, .float .f64 (nf c)] w fun e w' => AddedL (addAt (sqL f lo) t c) (n + c) most col mn mx p g T w e w' := by
  have hz := nf_ne_zero c hc0 (by omega)
  have hadd2 := fun w : World => run_float_arith (P := Tryz.prog) w .add 30 .f64 _ _ _ (nf_add n c hs)
  have hadd1 := fun w : World => run_float_arith (P := Tryz.prog) w .add 30 .f64 _ _ _ (nf_add (sqL f lo t) c (by omega))
  obtain ⟨y, hy⟩ : ∃ y, y = nf c := ⟨_, rfl⟩
  rw [← hy] at hz hadd1 hadd2 ⊢
  have HY := Lib.hid hy
  clear hy
  go_enter Tryz.func324, Tryz.ntmps324
  go_wp2_with fail
  refine H.mono ?_
  clear H
  rintro e w1 ⟨g', L, cp, off, rfl, hd, hr, o1, o2, o3, o4, hpg, hL, hf, hg⟩
  obtain ⟨j, hj⟩ : ∃ j : Nat, t - off = (j : Int) := ⟨(t - off).toNat, by omega⟩
  have hjL : j < L := by omega
  have hjL' : (j : Int) < (L : Int) := by omega
  obtain ⟨d0, d1, -, -, -⟩ := hd.cells
  have f1 := hd.free 1
  have hcell := hr.cell j hjL
  rw [show off + (j : Int) = t from by omega] at hcell
  have hfree := hr.free j
  have HD := Lib.hid hd
  have HR := Lib.hid hr
  have HF := Lib.hid hf
  have HG := Lib.hid hg
  have HJ := Lib.hid hj
  rw [hj]
  clear hd hr hf hg hj
  go_wp2
  go_end0
  have hj := HJ.out
  refine ⟨g', L, cp, rfl, ⟨off, (HD.out.row hpg j _).set1 _, ?_, o1, o2, o3, o4⟩, hpg, hL, ?_, HG.out⟩
  · have hr6 : Row ((w1.setCell ⟨g', j, none⟩ (.float .f64 (nf (sqL f lo t + c)))).setCell ⟨p, 1, none⟩ (.float .f64 (nf (n + c)))) g' L cp _ := (HR.out.set j (sqL f lo t + c) hjL).other hpg _
    refine hr6.ext (fun x hx => ?_)
    unfold addAt
    by_cases hxj : (x : Int) = (j : Int)
    · rw [if_pos hxj, if_pos (by omega), show off + (x : Int) = t from by omega]
    · rw [if_neg hxj, if_neg (by omega)]
  · refine (HF.out.setCell ?_ _).setCell (fun _ => .inl rfl) _
    intro hlt
    rcases HG.out with h | h
    · exact .inr h
    · exact absurd hlt (by show ¬ g' < _; omega)
end Go.Proofs.YtnmbjalojgccmaaGreat
end
