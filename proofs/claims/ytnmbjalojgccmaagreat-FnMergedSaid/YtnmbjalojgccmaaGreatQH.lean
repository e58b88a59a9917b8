/-
  adjust of the store whose highest bins are put together.
-/
import Derived.Test.YtnmbjalojgccmaaGreatQM
section
namespace Go.Proofs.YtnmbjalojgccmaaGreat
open Go.RowKit

def SumRelH (f : Int → Nat) (hi mx : Int) (w wr : World) (v i : Value) : Prop :=
  ∃ k : Int, i = .int .i64 k ∧ hi + 1 ≤ k ∧ (k ≤ mx + 1 ∨ k = hi + 1) ∧ v = .float .f64 (nf (cum f k - cum f (hi + 1))) ∧ Fr (fun _ => False) w wr

set_option maxRecDepth 100000 in
set_option maxHeartbeats 1000000 in
theorem adjustH_fit (f : Int → Nat) (c : Value) (mn mx nmn nmx : Int) (p g L cp : Nat) (rest : List Value) (T : TypeId) (w : World) (h : DenseOk f c mn mx p g L cp rest T w) (hpg : p ≠ g)
   (hf : ∀ i, i < mn ∨ mx < i → f i = 0) (h1 : mn ≤ mx) (h2 : nmn ≤ mn) (h3 : mx ≤ nmx) (h4 : nmx - nmn + 1 ≤ L) (b1 : -100000 ≤ nmn) (b2 : nmx ≤ 100000) (b3 : L ≤ 200000) :
    Calls Tryz.prog 345 #[.pointer (some ⟨p, 0, none⟩), .int .i64 nmn, .int .i64 nmx] w fun e w' => e = .returned (.tuple #[]) ∧ DenseOk f c nmn nmx p g L cp rest T w' ∧ Fr (fun b => b = p ∨ b = g) w w' := by
  have H := center_any f c mn mx nmn nmx p g L cp rest T w h hpg hf h1 h2 h3 h4 b1 b2 b3
  obtain ⟨off, hd, -⟩ := h
  obtain ⟨d0, -⟩ := hd.cells
  have i1 : IntKind.i64.wrap (nmx - nmn + 1) = nmx - nmn + 1 := by rw [IntKind.wrap_i64]; omega
  have q1 : ¬ (L : Int) < nmx - nmn + 1 := by omega
  clear hf h4 hd
  go_enter Tryz.func345, Tryz.ntmps345
  go_wp2_with (go_at_call 238; (with_reducible refine H.mono ?_); rintro e w5 ⟨rfl, hd5, hf5⟩; have HD5 := Lib.hid hd5; have HF5 := Lib.hid hf5; clear hd5 hf5)
  go_end0
  exact ⟨rfl, HD5.out, HF5.out⟩

set_option maxRecDepth 100000 in
set_option maxHeartbeats 1000000 in
theorem adjustH_one (f : Int → Nat) (n most : Nat) (col : Bool) (mn mx nmn nmx hi : Int) (p g L cp : Nat) (T : TypeId) (w : World) (h : DenseOk f (.float .f64 (nf n)) mn mx p g L cp [.int .i64 (most : Int), .bool col] T w) (_hpg : p ≠ g)
   (hf : ∀ i, i < mn ∨ mx < i → f i = 0) (hn : n = tot2 f) (_h1 : mn ≤ mx) (_h2 : nmn ≤ mn) (_h3 : mx ≤ nmx) (h4 : (L : Int) < nmx - nmn + 1) (hhi : hi = nmn + L - 1) (h5 : hi ≤ mn) (hL : 0 < L) (b1 : -10000 ≤ nmn) (b2 : nmx ≤ 10000) (b3 : L ≤ 50000) :
    Calls Tryz.prog 345 #[.pointer (some ⟨p, 0, none⟩), .int .i64 nmn, .int .i64 nmx] w fun e w' => Squashed (sqH f hi) (.float .f64 (nf n)) nmn hi p g L most T w e w' := by
  obtain ⟨off, hd, hr, o1, o2, o3, o4⟩ := h
  obtain ⟨d0, d1, d2, d3, d4⟩ := hd.cells
  obtain ⟨l, hl⟩ : ∃ l : Nat, (L : Int) - 1 = (l : Int) := ⟨L - 1, by omega⟩
  have i1 : IntKind.i64.wrap (nmx - nmn + 1) = nmx - nmn + 1 := by rw [IntKind.wrap_i64]; omega
  have i2 : IntKind.i64.wrap (nmn + (L : Int)) = nmn + (L : Int) := by rw [IntKind.wrap_i64]; omega
  have i3 : IntKind.i64.wrap (nmn + (L : Int) - 1) = hi := by rw [IntKind.wrap_i64]; omega
  have i4 : nmn + (L : Int) - 1 = hi := hhi.symm
  have i6 : IntKind.i64.wrap ((L : Int) - 1) = (l : Int) := by rw [IntKind.wrap_i64]; omega
  have i9 : IntKind.i64.wrap (l : Int) = (l : Int) := by rw [IntKind.wrap_i64]; omega
  have hlL : l < L := by omega
  have hlL2 : (l : Int) < (L : Int) := by omega
  obtain ⟨w1, hmk, hrow, hgr⟩ := newRow_any L (by omega) w
  have hd1 := hd.fr ((Fr.refl (fun _ => False) w).grown_none hgr) (fun h => h)
  obtain ⟨e0, e1, e2, e3, e4⟩ := hd1.cells
  have g0 := hd1.free 0
  have g2 := hd1.free 2
  have g3 := hd1.free 3
  have g4 := hd1.free 4
  obtain ⟨c0, hc0⟩ : ∃ c0, c0 = nf n := ⟨_, rfl⟩
  have HC := Lib.hid hc0
  have HD1 := Lib.hid hd1
  have HROW := Lib.hid hrow
  have HGR := Lib.hid hgr
  have HHI := Lib.hid hhi
  have HN := Lib.hid hn
  have HF := Lib.hid hf
  have HLL := Lib.hid hl
  have hpl := hd.lt
  rw [← hc0] at d1 e1 ⊢
  clear hd hr hf hd1 hrow hgr hhi hn hc0
  go_enter Tryz.func345, Tryz.ntmps345
  go_wp2
  obtain ⟨W, hW⟩ : ∃ W, W = ((w1.setCell ⟨p, 0, none⟩ (.slice (some ⟨w.heap.size, 0, none⟩) L L)).setCell ⟨p, 2, none⟩ (.int .i64 nmn)).setCell ⟨p, 4, none⟩ (.int .i64 hi) := ⟨_, rfl⟩
  have hpn : p ≠ w.heap.size := by omega
  have hdW : DS W p [.int .i64 (most : Int), .bool col] T (.slice (some ⟨w.heap.size, 0, none⟩) L L) (.float .f64 c0) (.int .i64 nmn) (.int .i64 mn) (.int .i64 hi) := by
    rw [hW, HC.out]; exact ((HD1.out.set0 _).set2 _).set4 _
  have hrW : Row W w.heap.size L L (fun _ => 0) := by rw [hW]; exact ((HROW.out.other hpn _).other hpn _).other hpn _
  have hfW : Fr (fun b => b = p ∨ b = g) w W := by
    rw [hW]; exact (((((Fr.refl _ w).grown_none HGR.out).setCell (fun _ => .inl rfl) _).setCell (fun _ => .inl rfl) _).setCell (fun _ => .inl rfl) _)
  rw [← hW]
  obtain ⟨r0, r1, r2, r3, r4⟩ := hdW.cells
  obtain ⟨-, r6⟩ := hdW.cells2
  have s3 := hdW.free 3
  have s6 := hdW.free 6
  have hcell := hrW.cell l hlL
  have hfree := hrW.free l
  have HDW := Lib.hid hdW
  have HRW := Lib.hid hrW
  have HFW := Lib.hid hfW
  clear hW hdW hrW hfW HD1 HROW HGR d0 d1 d2 d3 d4 e0 e1 e2 e3 e4 g0 g2 g3 g4 hmk
  go_still_tail 18, (by kernel_rfl)
  show wpList _ _ _ _ _ W.drew
  go_wp2
  go_end0
  have hd5 := (((HDW.out.drew.row hpn l (.float .f64 c0))).set3 (.int .i64 nmn)).set6 (.bool true)
  have hr5 : Row (W.drew.setCell ⟨w.heap.size, l, none⟩ (.float .f64 (nf n))) w.heap.size L L _ := HRW.out.drew.set l n hlL
  rw [← HC.out] at hr5
  have hhi := HHI.out
  refine ⟨w.heap.size, L, rfl, ⟨nmn, hd5, ((hr5.other hpn _).other hpn _).ext (fun j hj => ?_), Int.le_refl _, by omega, by omega, by omega⟩, hpn, ?_, .inr (Nat.le_refl _)⟩
  · unfold sqH
    have hn := HN.out
    have hz := HF.out
    have hll := HLL.out
    by_cases hj0 : j = l
    · subst hj0
      rw [if_pos rfl, if_neg (by omega), if_pos (by omega), hn, cum_none f hi (fun i hi => hz i (by omega)), Nat.sub_zero]
    · rw [if_neg (by omega), if_neg (by omega), if_neg (by omega)]
      exact (hz _ (by omega)).symm
  · exact ((HFW.out.drew.setCell (fun h => absurd h (Nat.lt_irrefl _)) _).setCell (fun _ => .inl rfl) _).setCell (fun _ => .inl rfl) _

set_option maxRecDepth 100000 in
set_option maxHeartbeats 1000000 in
theorem adjustH_up (f : Int → Nat) (n most : Nat) (col : Bool) (mn mx nmn nmx hi : Int) (p g L cp : Nat) (T : TypeId) (w : World) (off : Int)
   (hd : DS w p [.int .i64 (most : Int), .bool col] T (.slice (some ⟨g, 0, none⟩) L cp) (.float .f64 (nf n)) (.int .i64 off) (.int .i64 mn) (.int .i64 mx)) (hr : Row w g L cp (fun j => f (off + j)))
   (o1 : off ≤ mn) (o2 : mx < off + L) (o3 : -1000000 ≤ off) (o4 : off ≤ 1000000) (hpg : p ≠ g)
   (hf : ∀ i, i < mn ∨ mx < i → f i = 0) (h1 : mn ≤ mx) (h2 : nmn ≤ mn) (h3 : mx ≤ nmx) (h4 : (L : Int) < nmx - nmn + 1) (hhi : hi = nmn + L - 1) (h5 : mn < hi) (h6 : off ≤ nmn) (b1 : -10000 ≤ nmn) (b2 : nmx ≤ 10000) (b3 : L ≤ 50000) :
    Calls Tryz.prog 345 #[.pointer (some ⟨p, 0, none⟩), .int .i64 nmn, .int .i64 nmx] w fun e w' => Squashed (sqH f hi) (.float .f64 (nf n)) nmn hi p g L most T w e w' := by
  rw [sqH_none f hi (by omega) (fun i hi => hf i (by omega)) (fun i hi => hf i (by omega))]
  obtain ⟨d0, d1, d2, d3, d4⟩ := hd.cells
  have i1 : IntKind.i64.wrap (nmx - nmn + 1) = nmx - nmn + 1 := by rw [IntKind.wrap_i64]; omega
  have i2 : IntKind.i64.wrap (nmn + (L : Int)) = nmn + (L : Int) := by rw [IntKind.wrap_i64]; omega
  have i3 : IntKind.i64.wrap (nmn + (L : Int) - 1) = hi := by rw [IntKind.wrap_i64]; omega
  have i4 : nmn + (L : Int) - 1 = hi := hhi.symm
  have i5 : IntKind.i64.wrap (off - nmn) = off - nmn := by rw [IntKind.wrap_i64]; omega
  have q1 : ¬ hi ≤ mn := by omega
  have q2 : ¬ 0 < off - nmn := by omega
  obtain ⟨ma, hma⟩ : ∃ ma : Nat, mn = off + ma := ⟨(mn - off).toNat, by omega⟩
  obtain ⟨xa, hxa⟩ : ∃ xa : Nat, mx = off + xa := ⟨(mx - off).toNat, by omega⟩
  have hd2 := hd
  rw [hma, hxa] at hd2
  have HSH := shift_any p g L cp ma xa (mn - nmn).toNat [.int .i64 (most : Int), .bool col] T (fun j => f (off + j)) (.float .f64 (nf n)) off (off - nmn) w hd2 hr hpg (by omega) (by omega) (by omega) (by omega) (fun j hj => hf _ (by omega)) o3 o4 (by omega)
  rw [show off - (off - nmn) = nmn from by omega] at HSH
  have HHI := Lib.hid hhi
  have HMA := Lib.hid hma
  have HXA := Lib.hid hxa
  obtain ⟨c0, hc0⟩ : ∃ c0, c0 = nf n := ⟨_, rfl⟩
  rw [← hc0] at HSH d1 ⊢
  clear hd hr hf hhi hc0 hd2 hma hxa d1
  go_enter Tryz.func345, Tryz.ntmps345
  go_wp2_with (go_at_call 239; (with_reducible refine HSH.mono ?_); rintro e w5 ⟨rfl, hd5, hr5, hf5⟩; have HD5 := Lib.hid hd5; have HR5 := Lib.hid hr5; have HF5 := Lib.hid hf5; have s3 := hd5.cells.2.2.2.1; have s4 := hd5.cells.2.2.2.2; have s6 := hd5.cells2.2; have s3f := hd5.free 3; have s4f := hd5.free 4; have s6f := hd5.free 6; clear hd5 hr5 hf5 d0 d2 d3 d4)
  go_end0
  refine ⟨g, cp, rfl, ⟨nmn, ((HD5.out.set4 _).set3 _).set6 _, (((HR5.out.other hpg _).other hpg _).other hpg _).ext (fun j hj => ?_), Int.le_refl _, by have := HHI.out; omega, by omega, by omega⟩, hpg, ?_, .inl rfl⟩
  · show f (off + ((j : Int) - (off - nmn))) = f (nmn + (j : Int))
    congr 1
    omega
  · exact (((HF5.out.setCell (fun _ => .inl rfl) _).setCell (fun _ => .inl rfl) _).setCell (fun _ => .inl rfl) _)

set_option maxRecDepth 100000 in
set_option maxHeartbeats 1000000 in
theorem adjustH_down (f : Int → Nat) (n most : Nat) (col : Bool) (mn mx nmn nmx hi : Int) (p g L cp : Nat) (T : TypeId) (w : World) (off : Int)
   (hd : DS w p [.int .i64 (most : Int), .bool col] T (.slice (some ⟨g, 0, none⟩) L cp) (.float .f64 (nf n)) (.int .i64 off) (.int .i64 mn) (.int .i64 mx)) (hr : Row w g L cp (fun j => f (off + j)))
   (o1 : off ≤ mn) (o2 : mx < off + L) (o3 : -1000000 ≤ off) (o4 : off ≤ 1000000) (hpg : p ≠ g)
   (hf : ∀ i, i < mn ∨ mx < i → f i = 0) (hn : n = tot2 f) (hs : n < 9007199254740992) (h1 : mn ≤ mx) (h2 : nmn ≤ mn) (h3 : mx ≤ nmx) (h4 : (L : Int) < nmx - nmn + 1) (hhi : hi = nmn + L - 1) (h5 : mn < hi) (h6 : nmn < off) (b1 : -10000 ≤ nmn) (b2 : nmx ≤ 10000) (b3 : L ≤ 50000) :
    Calls Tryz.prog 345 #[.pointer (some ⟨p, 0, none⟩), .int .i64 nmn, .int .i64 nmx] w fun e w' => Squashed (sqH f hi) (.float .f64 (nf n)) nmn hi p g L most T w e w' := by
  obtain ⟨d0, d1, d2, d3, d4⟩ := hd.cells
  have i1 : IntKind.i64.wrap (nmx - nmn + 1) = nmx - nmn + 1 := by rw [IntKind.wrap_i64]; omega
  have i2 : IntKind.i64.wrap (nmn + (L : Int)) = nmn + (L : Int) := by rw [IntKind.wrap_i64]; omega
  have i3 : IntKind.i64.wrap (nmn + (L : Int) - 1) = hi := by rw [IntKind.wrap_i64]; omega
  have i4 : nmn + (L : Int) - 1 = hi := hhi.symm
  have i5 : IntKind.i64.wrap (off - nmn) = off - nmn := by rw [IntKind.wrap_i64]; omega
  have i8 : IntKind.i64.wrap (hi + 1) = hi + 1 := by rw [IntKind.wrap_i64]; omega
  have q1 : ¬ hi ≤ mn := by omega
  have q2 : 0 < off - nmn := by omega
  have HD := Lib.hid hd
  have HR := Lib.hid hr
  have HF := Lib.hid hf
  have HN := Lib.hid hn
  have HS := Lib.hid hs
  have HHI := Lib.hid hhi
  have bh : hi ≤ 10000 := by omega
  obtain ⟨c0, hc0⟩ : ∃ c0, c0 = nf n := ⟨_, rfl⟩
  have HC := Lib.hid hc0
  rw [← hc0]
  clear hd hr hf hn hs hhi hc0 d1
  go_enter Tryz.func345, Tryz.ntmps345
  go_wp2
  clear d0 d2 d3 d4
  go_loopw [7, 8] (fun v i wr => SumRelH f hi mx w wr v i) (fun _ i _ => (mx + 1 - intOf i).toNat)
  case atStart => exact ⟨hi + 1, rfl, Int.le_refl _, .inr rfl, by rw [Nat.sub_self, nf_zero], Fr.refl _ _⟩
  case round =>
    obtain ⟨k, rfl, hk1, hk2, rfl, hfr⟩ := hrel
    have hdw := HD.out.fr hfr (fun h => h)
    have hrw := HR.out.fr hfr (fun h => h)
    obtain ⟨d0, d1, d2, d3, d4⟩ := hdw.cells
    rw [← HC.out] at d1
    have hmono := cum_mono f (hi + 1) k hk1
    by_cases hlt : k ≤ mx
    · obtain ⟨j, hj⟩ : ∃ j : Nat, k - off = (j : Int) := ⟨(k - off).toNat, by omega⟩
      have hjL : j < L := by omega
      have hjL' : (j : Int) < (L : Int) := by omega
      have i6 : IntKind.i64.wrap (k - off) = (j : Int) := by rw [IntKind.wrap_i64]; omega
      have hcell := hrw.cell j hjL
      rw [show off + (j : Int) = k from by omega] at hcell
      have hle := cum_le_tot f (k + 1) (by omega)
      have hsum := cum_succ f k (by omega)
      have hadd := fun w : World => run_float_arith (P := Tryz.prog) w .add 30 .f64 _ _ _ (nf_add (cum f k - cum f (hi + 1)) (f k) (by have := HN.out; have := HS.out; omega))
      rw [show cum f k - cum f (hi + 1) + f k = cum f (k + 1) - cum f (hi + 1) from by omega] at hadd
      have HFR := Lib.hid hfr
      have HJ := Lib.hid hj
      clear hfr hdw hrw d1 d3 hle hsum hmono
      go_wp2
      go_quiet (fail)
      go_wp2
      go_roundw
      case rel => exact ⟨k + 1, by go_num, by omega, .inl (by omega), rfl, HFR.out.drewN nq⟩
      case measure => simp [intOf]; omega
    · have hcl : cum f k - cum f (hi + 1) = tot2 f - cum f (hi + 1) := by rw [tot2_eq f k (by omega) (fun i hi => HF.out i (by omega))]
      rw [hcl]
      have HRS := reset_any p g L cp [.int .i64 (most : Int), .bool col] T (fun j => f (off + j)) (.float .f64 (nf n)) (.int .i64 mn) (.int .i64 mx) off (hi + 1) mx wr.drew hdw hrw hpg (by omega) (by omega) o3 o4 (by omega) (by omega) (by omega)
      have HDW := Lib.hid hdw
      have HFR := Lib.hid hfr
      obtain ⟨nk, hnk⟩ : ∃ nk, nk = nf (tot2 f - cum f (hi + 1)) := ⟨_, rfl⟩
      rw [← hnk]
      have HNK := Lib.hid hnk
      clear hfr hdw hrw hnk hcl hk1 hk2 hmono
      go_wp2
      go_still_tail 10, (by kernel_rfl)
      show wpList _ _ _ _ _ wr.drew
      go_wp2_with (go_at_call 240; (with_reducible refine HRS.mono ?_); rintro e w5 ⟨rfl, hr5, hf5⟩; have HR5 := Lib.hid hr5; have HF5 := Lib.hid hf5; have HD5 := Lib.hid (HDW.out.drew.fr hf5 hpg); clear hr5 hf5 d0 d1 d2 d3 d4)
      obtain ⟨d0, d1, d2, d3, d4⟩ := HD5.out.cells
      have s4f := HD5.out.free 4
      obtain ⟨j, hj⟩ : ∃ j : Nat, hi - off = (j : Int) := ⟨(hi - off).toNat, by omega⟩
      obtain ⟨ma, hma⟩ : ∃ ma : Nat, mn = off + ma := ⟨(mn - off).toNat, by omega⟩
      have hjL : j < L := by have := HHI.out; omega
      have hjL' : (j : Int) < (L : Int) := by omega
      have i7 : IntKind.i64.wrap (hi - off) = (j : Int) := by rw [IntKind.wrap_i64]; omega
      have hcell := HR5.out.cell j hjL
      have hz1 : zer (hi + 1 - off) (mx - off) (fun j => f (off + j)) (j : Int) = f hi := by
        unfold zer
        rw [if_neg (by omega)]
        show f (off + (j : Int)) = f hi
        rw [show off + (j : Int) = hi from by omega]
      rw [hz1] at hcell
      have hfree := HR5.out.free j
      have hle := cum_le_tot f (hi + 1) (by omega)
      have hsum := cum_succ f hi (by omega)
      have hadd := fun w : World => run_float_arith (P := Tryz.prog) w .add 30 .f64 _ _ _ (nf_add (f hi) (tot2 f - cum f (hi + 1)) (by have := HN.out; have := HS.out; omega))
      rw [show f hi + (tot2 f - cum f (hi + 1)) = tot2 f - cum f hi from by omega, ← HNK.out] at hadd
      have HSH : ∀ W, DS W p [.int .i64 (most : Int), .bool col] T (.slice (some ⟨g, 0, none⟩) L cp) (.float .f64 (nf n)) (.int .i64 off) (.int .i64 mn) (.int .i64 hi) → Row W g L cp (fun j => sqH f hi (off + j)) →
          Calls Tryz.prog 239 #[.pointer (some ⟨p, 0, none⟩), .int .i64 (off - nmn)] W fun e w' => e = .returned (.tuple #[]) ∧
            DS w' p [.int .i64 (most : Int), .bool col] T (.slice (some ⟨g, 0, none⟩) L cp) (.float .f64 (nf n)) (.int .i64 nmn) (.int .i64 mn) (.int .i64 hi) ∧ Row w' g L cp (fun j => sqH f hi (nmn + j)) ∧ Fr (fun b => b = p ∨ b = g) W w' := by
        intro W hdW hrW
        have e1 : hi = off + (j : Int) := by omega
        have hdW2 : DS W p [.int .i64 (most : Int), .bool col] T (.slice (some ⟨g, 0, none⟩) L cp) (.float .f64 (nf n)) (.int .i64 off) (.int .i64 (off + (ma : Int))) (.int .i64 (off + (j : Int))) := by rw [← e1, ← hma]; exact hdW
        have h := shift_any p g L cp ma j (mn - nmn).toNat [.int .i64 (most : Int), .bool col] T (fun j => sqH f hi (off + j)) (.float .f64 (nf n)) off (off - nmn) W hdW2 hrW hpg (by omega) (by omega) (by omega) (by have := HHI.out; omega)
          (fun i hi' => by
            rcases hi' with hi' | hi'
            · show sqH f hi (off + i) = 0
              unfold sqH; rw [if_neg (by omega), if_neg (by omega)]; exact HF.out _ (.inl (by omega))
            · show sqH f hi (off + i) = 0
              unfold sqH; rw [if_pos (by omega)]) o3 o4 (by omega)
        rw [← e1, ← hma, show off - (off - nmn) = nmn from by omega] at h
        refine h.mono fun e w' ⟨h1, h2, h3, h4⟩ => ⟨h1, h2, h3.ext fun i hi' => ?_, h4⟩
        show sqH f hi (off + ((i : Int) - (off - nmn))) = sqH f hi (nmn + (i : Int))
        congr 1
        omega
      have hrow : ∀ i : Nat, i < L → (if (i : Int) = (j : Int) then tot2 f - cum f hi else zer (hi + 1 - off) (mx - off) (fun j => f (off + j)) (i : Int)) = sqH f hi (off + (i : Int)) := by
        intro i hi'
        unfold sqH zer
        by_cases hij : (i : Int) = (j : Int)
        · rw [if_pos hij, if_neg (by omega), if_pos (by omega)]
        · rw [if_neg hij]
          by_cases hil : hi < off + (i : Int)
          · rw [if_pos hil]
            by_cases him : (i : Int) ≤ mx - off
            · rw [if_pos (by omega)]
            · rw [if_neg (by omega)]; exact HF.out _ (.inr (by omega))
          · rw [if_neg hil, if_neg (by omega), if_neg (by omega)]
      have HROW := Lib.hid hrow
      have HJ := Lib.hid hj
      have HMA := Lib.hid hma
      clear hj hma hle hsum hz1 hrow
      go_still_tail 17, (by kernel_rfl)
      show wpList _ _ _ _ _ w5.drew
      go_wp2_with fail
      have hd6 := (HD5.out.row hpg j (.float .f64 (nf (tot2 f - cum f hi)))).set4 (.int .i64 hi)
      have hr6 := ((HR5.out.set j (tot2 f - cum f hi) hjL).other (p := ⟨p, 4, none⟩) hpg (.int .i64 hi)).ext (b := fun i => sqH f hi (off + i)) HROW.out
      have hf6 := ((((HFR.out.mono (U := fun b => b = p ∨ b = g) (fun _ _ h => h.elim)).drew.trans HF5.out (U := fun b => b = p ∨ b = g) (fun _ _ h => h) (fun _ _ h => .inr h)).setCell (p := ⟨g, j, none⟩) (fun _ => .inr rfl) (.float .f64 (nf (tot2 f - cum f hi)))).setCell (p := ⟨p, 4, none⟩) (fun _ => .inl rfl) (.int .i64 hi))
      refine (HSH _ hd6.drew hr6.drew).mono ?_
      have HF6 := Lib.hid hf6.drew
      clear hd6 hr6 hf6 HSH d0 d1 d2 d3 d4 hcell hfree hadd s4f
      rintro e w7 ⟨rfl, hd7, hr7, hf7⟩
      obtain ⟨d0, d1, d2, d3, d4⟩ := hd7.cells
      obtain ⟨-, d6⟩ := hd7.cells2
      have s3 := hd7.free 3
      have s6 := hd7.free 6
      have HD7 := Lib.hid hd7
      have HR7 := Lib.hid hr7
      have HF7 := Lib.hid hf7
      clear hd7 hr7 hf7 d1
      go_wp2
      go_end0
      rw [HC.out]
      refine ⟨g, cp, rfl, ⟨nmn, (HD7.out.set3 _).set6 _, (HR7.out.other hpg _).other hpg _, Int.le_refl _, by have := HHI.out; omega, by omega, by omega⟩, hpg, ?_, .inl rfl⟩
      exact (((HF6.out.trans HF7.out (fun _ _ h => h) (fun _ _ h => h)).setCell (fun _ => .inl rfl) _).setCell (fun _ => .inl rfl) _)

/-- adjust where the range is too wide. -/
theorem adjustH_wide (f : Int → Nat) (n most : Nat) (col : Bool) (mn mx nmn nmx hi : Int) (p g L cp : Nat) (T : TypeId) (w : World) (h : DenseOk f (.float .f64 (nf n)) mn mx p g L cp [.int .i64 (most : Int), .bool col] T w) (hpg : p ≠ g)
   (hf : ∀ i, i < mn ∨ mx < i → f i = 0) (hn : n = tot2 f) (hs : n < 9007199254740992) (h1 : mn ≤ mx) (h2 : nmn ≤ mn) (h3 : mx ≤ nmx) (h4 : (L : Int) < nmx - nmn + 1) (hhi : hi = nmn + L - 1) (hL : 0 < L) (b1 : -10000 ≤ nmn) (b2 : nmx ≤ 10000) (b3 : L ≤ 50000) :
    Calls Tryz.prog 345 #[.pointer (some ⟨p, 0, none⟩), .int .i64 nmn, .int .i64 nmx] w fun e w' => Squashed (sqH f hi) (.float .f64 (nf n)) nmn hi p g L most T w e w' := by
  by_cases h5 : hi ≤ mn
  · exact adjustH_one f n most col mn mx nmn nmx hi p g L cp T w h hpg hf hn h1 h2 h3 h4 hhi h5 hL b1 b2 b3
  · obtain ⟨off, hd, hr, o1, o2, o3, o4⟩ := h
    by_cases h6 : off ≤ nmn
    · exact adjustH_up f n most col mn mx nmn nmx hi p g L cp T w off hd hr o1 o2 o3 o4 hpg hf h1 h2 h3 h4 hhi (by omega) h6 b1 b2 b3
    · exact adjustH_down f n most col mn mx nmn nmx hi p g L cp T w off hd hr o1 o2 o3 o4 hpg hf hn hs h1 h2 h3 h4 hhi (by omega) (by omega) b1 b2 b3
end Go.Proofs.YtnmbjalojgccmaaGreat
end
