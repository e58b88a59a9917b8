/-
  Of the stores that collapse: the flag behind the five fields; a new row; getNewLength.
-/
import Derived.Test.YtnmbjalojgccmaaGreatQG
import Derived.Laws.OwnMore
section
namespace Go.Proofs.YtnmbjalojgccmaaGreat
open Go.RowKit

theorem DS.cells2 {w : World} {p : Nat} {u v : Value} {T : TypeId} {b c o m x : Value} (h : DS w p [u, v] T b c o m x) : w.cell? ⟨p, 5, none⟩ = some u ∧ w.cell? ⟨p, 6, none⟩ = some v :=
  ⟨cell_of_row _ _ 5 _ _ _ h, cell_of_row _ _ 6 _ _ _ h⟩
theorem DS.set6 {w : World} {p : Nat} {u v : Value} {T : TypeId} {b c o m x : Value} (h : DS w p [u, v] T b c o m x) (y : Value) : DS (w.setCell ⟨p, 6, none⟩ y) p [u, y] T b c o m x :=
  (heap_setCell_same w p 6 _ T y h).trans (by rw [List.setIfInBounds_toArray]; rfl)

theorem Tryz.infoF64z : (Tryz.prog.info? 30).map (fun i => (i.zero, i.size, i.bytes)) = some (some (.float .f64 0), 1, 8) := by kernel_rfl

/-- A new row of L noughts. -/
theorem newRow_any (L : Nat) (hL : L ≤ 1000000) (w : World) :
    ∃ w', (Instr.makeSlice 23 (.int .i64 (L : Int)) (.int .i64 (L : Int))).run Tryz.prog w = .ok (.slice (some ⟨w.heap.size, 0, none⟩) L L) w' ∧ Row w' w.heap.size L L (fun _ => 0) ∧ w.grownBy w' none := by
  have hi := Tryz.infoF64z
  rcases hii : Tryz.prog.info? 30 with _ | i
  · rw [hii] at hi; cases hi
  · rw [hii] at hi
    simp only [Option.map_some, Option.some.injEq, Prod.mk.injEq] at hi
    obtain ⟨hz, hs, hb⟩ := hi
    obtain ⟨w', h1, h2, h3⟩ := run_makeSlice_full (P := Tryz.prog) w 0 23 30 i (.float .f64 0) 1 Tryz.underlying23 hii hz hs .i64 .i64 L (by omega) (by rw [hb]; omega) (by simp [maxLen]; omega) (Nat.zero_le _)
    refine ⟨w', h1, ?_, h3⟩
    unfold Row
    have e : (madeCells (Value.float .f64 0).cells (L * 1)).toList = row (fun _ => 0) L := by
      rw [show (Value.float .f64 0).cells = #[.float .f64 0] from rfl, toList_madeCells_one, Nat.mul_one]
      unfold row
      dsimp only
      rw [nf_zero]
      apply List.ext_getElem
      · simp
      · intro j h1 h2; simp
    rw [← e]
    exact h2

theorem newLen_fix (d : Nat) (h1 : 1 ≤ d) (h2 : d ≤ 100000) : ∃ k : Nat, d ≤ k ∧ k ≤ 2 * d + 1000 ∧ ∀ (a b : Int) (s : Value) (w : World), b - a + 1 = (d : Int) → -1000000 ≤ a → a ≤ 1000000 →
    Calls Tryz.prog 233 #[s, .int .i64 a, .int .i64 b] w fun e w' => e = .returned (.int .i64 (k : Int)) ∧ w' = w := by
  obtain ⟨q, r1, r2, k, hq, hr1, hr2, hk, k1, k2⟩ := newLen_plain d h1 h2
  refine ⟨k, k1, k2, fun a b s w hd _ha _ha2 => ?_⟩
  have hcF := fun w => run_convert_int_float (P := Tryz.prog) w 3 30 .i64 .f64 ((d : Int) + 64 - 1) (by simp [Tryz.underlying3]) Tryz.underlying30
  have hnf : floatOfInt .f64 ((d : Int) + 64 - 1) = nf (d + 63) := by unfold nf; congr 1; omega
  rw [hnf] at hcF
  have e1 := fun w : World => run_float_arith (P := Tryz.prog) w .quo 30 .f64 _ _ _ hq
  have e2 := fun w : World => run_float_arith (P := Tryz.prog) w .add 30 .f64 _ _ _ hr1
  have e3 := fun w : World => run_float_arith (P := Tryz.prog) w .mul 30 .f64 _ _ _ hr2
  have hcI := fun w => run_convert_float_int (P := Tryz.prog) w 30 3 .f64 .i64 r2 (k : Int) (by simp [Tryz.underlying30]) Tryz.underlying3 hk
  clear hq hr1 hr2 hk hnf
  revert hcF e1
  generalize nf (d + 63) = y
  intro hcF e1
  go_enter Tryz.func233, Tryz.ntmps233
  go_wp2
  go_ret
  exact ⟨rfl, rfl⟩

/-- A number of places: 'most', or fewer, but from d on. -/
def GivesLenL (d most : Nat) (w : World) (e : Ending) (w' : World) : Prop := ∃ k : Nat, (d ≤ k ∨ k = most) ∧ k ≤ most ∧ e = .returned (.int .i64 (k : Int)) ∧ ∃ n, w' = w.drewN n

set_option maxRecDepth 100000 in
theorem newLenL_any (d most : Nat) (a b : Int) (p : Nat) (w : World) (hm : w.cell? ⟨p, 5, none⟩ = some (.int .i64 (most : Int))) (h1 : 1 ≤ d) (h2 : d ≤ 100000) (hd : b - a + 1 = (d : Int)) (ha : -1000000 ≤ a) (ha2 : a ≤ 1000000) :
    Calls Tryz.prog 332 #[.pointer (some ⟨p, 0, none⟩), .int .i64 a, .int .i64 b] w fun e w' => GivesLenL d most w e w' := by
  obtain ⟨k, k1, k2, hk⟩ := newLen_fix d h1 h2
  have H1 := fun w => hk a b (.pointer (some ⟨p, 0, none⟩)) w hd ha ha2
  obtain ⟨m, hmm⟩ : ∃ m : Nat, min (k : Int) (most : Int) = (m : Int) := ⟨min k most, by omega⟩
  have H2 : ∀ w, Calls Tryz.prog 231 #[.int .i64 (k : Int), .int .i64 (most : Int)] w fun e w' => e = .returned (.int .i64 (m : Int)) ∧ w' = w := by
    intro w
    rw [← hmm]
    exact (minI_any _ _ w).mono fun e w' h => ⟨h.1, h.2.symm⟩
  have HK : Hid ((d ≤ m ∨ m = most) ∧ m ≤ most) := by show _ ∧ _; omega
  clear hk hmm
  go_enter Tryz.func332, Tryz.ntmps332
  go_wp2
  go_quiet (first | (go_at_call 233; (with_reducible exact Calls.quiet_of_same (H1 _))) | (go_at_call 231; (with_reducible exact Calls.quiet_of_same (H2 _))))
  go_wp2
  go_ret
  exact ⟨m, HK.out.1, HK.out.2, rfl, nq, rfl⟩
set_option maxRecDepth 100000 in
theorem newLenH_any (d most : Nat) (a b : Int) (p : Nat) (w : World) (hm : w.cell? ⟨p, 5, none⟩ = some (.int .i64 (most : Int))) (h1 : 1 ≤ d) (h2 : d ≤ 100000) (hd : b - a + 1 = (d : Int)) (ha : -1000000 ≤ a) (ha2 : a ≤ 1000000) :
    Calls Tryz.prog 344 #[.pointer (some ⟨p, 0, none⟩), .int .i64 a, .int .i64 b] w fun e w' => GivesLenL d most w e w' := by
  obtain ⟨k, k1, k2, hk⟩ := newLen_fix d h1 h2
  have H1 := fun w => hk a b (.pointer (some ⟨p, 0, none⟩)) w hd ha ha2
  obtain ⟨m, hmm⟩ : ∃ m : Nat, min (k : Int) (most : Int) = (m : Int) := ⟨min k most, by omega⟩
  have H2 : ∀ w, Calls Tryz.prog 231 #[.int .i64 (k : Int), .int .i64 (most : Int)] w fun e w' => e = .returned (.int .i64 (m : Int)) ∧ w' = w := by
    intro w
    rw [← hmm]
    exact (minI_any _ _ w).mono fun e w' h => ⟨h.1, h.2.symm⟩
  have HK : Hid ((d ≤ m ∨ m = most) ∧ m ≤ most) := by show _ ∧ _; omega
  clear hk hmm
  go_enter Tryz.func344, Tryz.ntmps344
  go_wp2
  go_quiet (first | (go_at_call 233; (with_reducible exact Calls.quiet_of_same (H1 _))) | (go_at_call 231; (with_reducible exact Calls.quiet_of_same (H2 _))))
  go_wp2
  go_ret
  exact ⟨m, HK.out.1, HK.out.2, rfl, nq, rfl⟩
end Go.Proofs.YtnmbjalojgccmaaGreat
end
/-
  adjust of the store whose lowest bins are put together.
-/
section
namespace Go.Proofs.YtnmbjalojgccmaaGreat
open Go.RowKit

theorem Fr.grown_none {S : Nat → Prop} {a b c : World} (h : Fr S a b) (hg : b.grownBy c none) : Fr S a c := h.grown hg (fun k hk => by cases hk)

/-- Behind adjust where the range is too wide. -/
def Squashed (f : Int → Nat) (c : Value) (mn mx : Int) (p g L most : Nat) (T : TypeId) (w : World) (e : Ending) (w' : World) : Prop :=
  ∃ g' cp, e = .returned (.tuple #[]) ∧ DenseOk f c mn mx p g' L cp [.int .i64 (most : Int), .bool true] T w' ∧ p ≠ g' ∧ Fr (fun b => b = p ∨ b = g) w w' ∧ (g = g' ∨ w.heap.size ≤ g')

def SumRelL (f : Int → Nat) (mn lo : Int) (w wr : World) (v i : Value) : Prop :=
  ∃ k : Int, i = .int .i64 k ∧ mn ≤ k ∧ (k ≤ lo ∨ k = mn) ∧ v = .float .f64 (nf (cum f k)) ∧ Fr (fun _ => False) w wr

set_option maxRecDepth 100000 in
set_option maxHeartbeats 1000000 in
theorem adjustL_fit (f : Int → Nat) (c : Value) (mn mx nmn nmx : Int) (p g L cp : Nat) (rest : List Value) (T : TypeId) (w : World) (h : DenseOk f c mn mx p g L cp rest T w) (hpg : p ≠ g)
   (hf : ∀ i, i < mn ∨ mx < i → f i = 0) (h1 : mn ≤ mx) (h2 : nmn ≤ mn) (h3 : mx ≤ nmx) (h4 : nmx - nmn + 1 ≤ L) (b1 : -100000 ≤ nmn) (b2 : nmx ≤ 100000) (b3 : L ≤ 200000) :
    Calls Tryz.prog 333 #[.pointer (some ⟨p, 0, none⟩), .int .i64 nmn, .int .i64 nmx] w fun e w' => e = .returned (.tuple #[]) ∧ DenseOk f c nmn nmx p g L cp rest T w' ∧ Fr (fun b => b = p ∨ b = g) w w' := by
  have H := center_any f c mn mx nmn nmx p g L cp rest T w h hpg hf h1 h2 h3 h4 b1 b2 b3
  obtain ⟨off, hd, -⟩ := h
  obtain ⟨d0, -⟩ := hd.cells
  have i1 : IntKind.i64.wrap (nmx - nmn + 1) = nmx - nmn + 1 := by rw [IntKind.wrap_i64]; omega
  have q1 : ¬ (L : Int) < nmx - nmn + 1 := by omega
  clear hf h4 hd
  go_enter Tryz.func333, Tryz.ntmps333
  go_wp2_with (go_at_call 238; (with_reducible refine H.mono ?_); rintro e w5 ⟨rfl, hd5, hf5⟩; have HD5 := Lib.hid hd5; have HF5 := Lib.hid hf5; clear hd5 hf5)
  go_end0
  exact ⟨rfl, HD5.out, HF5.out⟩

set_option maxRecDepth 100000 in
set_option maxHeartbeats 1000000 in
theorem adjustL_one (f : Int → Nat) (n most : Nat) (col : Bool) (mn mx nmn nmx lo : Int) (p g L cp : Nat) (T : TypeId) (w : World) (h : DenseOk f (.float .f64 (nf n)) mn mx p g L cp [.int .i64 (most : Int), .bool col] T w) (_hpg : p ≠ g)
   (hf : ∀ i, i < mn ∨ mx < i → f i = 0) (hn : n = tot2 f) (_h1 : mn ≤ mx) (_h2 : nmn ≤ mn) (_h3 : mx ≤ nmx) (h4 : (L : Int) < nmx - nmn + 1) (hlo : lo = nmx - L + 1) (h5 : mx ≤ lo) (hL : 0 < L) (b1 : -10000 ≤ nmn) (b2 : nmx ≤ 10000) (b3 : L ≤ 50000) :
    Calls Tryz.prog 333 #[.pointer (some ⟨p, 0, none⟩), .int .i64 nmn, .int .i64 nmx] w fun e w' => Squashed (sqL f lo) (.float .f64 (nf n)) lo nmx p g L most T w e w' := by
  obtain ⟨off, hd, hr, o1, o2, o3, o4⟩ := h
  obtain ⟨d0, d1, d2, d3, d4⟩ := hd.cells
  have i1 : IntKind.i64.wrap (nmx - nmn + 1) = nmx - nmn + 1 := by rw [IntKind.wrap_i64]; omega
  have i2 : IntKind.i64.wrap (nmx - (L : Int)) = nmx - (L : Int) := by rw [IntKind.wrap_i64]; omega
  have i3 : IntKind.i64.wrap (nmx - (L : Int) + 1) = lo := by rw [IntKind.wrap_i64]; omega
  have i4 : nmx - (L : Int) + 1 = lo := hlo.symm
  have hL2 : (0 : Int) < (L : Int) := by omega
  obtain ⟨w1, hmk, hrow, hgr⟩ := newRow_any L (by omega) w
  have hd1 := hd.fr ((Fr.refl (fun _ => False) w).grown_none hgr) (fun h => h)
  obtain ⟨e0, e1, e2, e3, e4⟩ := hd1.cells
  have g0 := hd1.free 0
  have g2 := hd1.free 2
  have g3 := hd1.free 3
  have g4 := hd1.free 4
  have g6 := hd1.free 6
  obtain ⟨c0, hc0⟩ : ∃ c0, c0 = nf n := ⟨_, rfl⟩
  have HC := Lib.hid hc0
  have HD1 := Lib.hid hd1
  have HROW := Lib.hid hrow
  have HGR := Lib.hid hgr
  have HLO := Lib.hid hlo
  have HN := Lib.hid hn
  have HF := Lib.hid hf
  have hpl := hd.lt
  have hcell := hrow.cell 0 hL
  have hfree := hrow.free 0
  rw [← hc0] at d1 e1 ⊢
  clear hd hr hf hd1 hrow hgr hlo hn hc0
  go_enter Tryz.func333, Tryz.ntmps333
  go_wp2
  obtain ⟨W, hW⟩ : ∃ W, W = ((w1.setCell ⟨p, 0, none⟩ (.slice (some ⟨w.heap.size, 0, none⟩) L L)).setCell ⟨p, 2, none⟩ (.int .i64 lo)).setCell ⟨p, 3, none⟩ (.int .i64 lo) := ⟨_, rfl⟩
  have hpn : p ≠ w.heap.size := by omega
  have hdW : DS W p [.int .i64 (most : Int), .bool col] T (.slice (some ⟨w.heap.size, 0, none⟩) L L) (.float .f64 c0) (.int .i64 lo) (.int .i64 lo) (.int .i64 mx) := by
    rw [hW, HC.out]; exact ((HD1.out.set0 _).set2 _).set3 _
  have hrW : Row W w.heap.size L L (fun _ => 0) := by rw [hW]; exact ((HROW.out.other hpn _).other hpn _).other hpn _
  have hfW : Fr (fun b => b = p ∨ b = g) w W := by
    rw [hW]; exact (((((Fr.refl _ w).grown_none HGR.out).setCell (fun _ => .inl rfl) _).setCell (fun _ => .inl rfl) _).setCell (fun _ => .inl rfl) _)
  rw [← hW]
  obtain ⟨r0, r1, r2, r3, r4⟩ := hdW.cells
  obtain ⟨-, r6⟩ := hdW.cells2
  have s4 := hdW.free 4
  have s6 := hdW.free 6
  have hcell := hrW.cell 0 hL
  have hfree := hrW.free 0
  have HDW := Lib.hid hdW
  have HRW := Lib.hid hrW
  have HFW := Lib.hid hfW
  clear hW hdW hrW hfW HD1 HROW HGR d0 d1 d2 d3 d4 e0 e1 e2 e3 e4 g0 g2 g3 g4 g6 hmk
  go_still_tail 11, (by kernel_rfl)
  show wpList _ _ _ _ _ W.drew
  go_wp2
  go_end0
  have hd5 := (((HDW.out.drew.row hpn 0 (.float .f64 c0))).set4 (.int .i64 nmx)).set6 (.bool true)
  have hr5 : Row (W.drew.setCell ⟨w.heap.size, 0, none⟩ (.float .f64 (nf n))) w.heap.size L L _ := HRW.out.drew.set 0 n hL
  rw [← HC.out] at hr5
  have hlo := HLO.out
  refine ⟨w.heap.size, L, rfl, ⟨lo, hd5, ((hr5.other hpn _).other hpn _).ext (fun j hj => ?_), Int.le_refl _, by omega, by omega, by omega⟩, hpn, ?_, .inr (Nat.le_refl _)⟩
  · unfold sqL
    have hn := HN.out
    have hz := HF.out
    by_cases hj0 : j = 0
    · subst hj0
      rw [if_pos rfl, if_neg (by omega), if_pos (by omega), hn]
      exact tot2_eq f (lo + 1) (by omega) (fun i hi => hz i (by omega))
    · rw [if_neg (by omega), if_neg (by omega), if_neg (by omega)]
      exact (hz _ (by omega)).symm
  · exact ((HFW.out.drew.setCell (fun h => absurd h (Nat.lt_irrefl _)) _).setCell (fun _ => .inl rfl) _).setCell (fun _ => .inl rfl) _

set_option maxRecDepth 100000 in
set_option maxHeartbeats 1000000 in
theorem adjustL_up (f : Int → Nat) (n most : Nat) (col : Bool) (mn mx nmn nmx lo : Int) (p g L cp : Nat) (T : TypeId) (w : World) (off : Int)
   (hd : DS w p [.int .i64 (most : Int), .bool col] T (.slice (some ⟨g, 0, none⟩) L cp) (.float .f64 (nf n)) (.int .i64 off) (.int .i64 mn) (.int .i64 mx)) (hr : Row w g L cp (fun j => f (off + j)))
   (o1 : off ≤ mn) (o2 : mx < off + L) (o3 : -1000000 ≤ off) (o4 : off ≤ 1000000) (hpg : p ≠ g)
   (hf : ∀ i, i < mn ∨ mx < i → f i = 0) (h1 : mn ≤ mx) (h2 : nmn ≤ mn) (h3 : mx ≤ nmx) (h4 : (L : Int) < nmx - nmn + 1) (hlo : lo = nmx - L + 1) (h5 : lo < mx) (h6 : lo ≤ off) (b1 : -10000 ≤ nmn) (b2 : nmx ≤ 10000) (b3 : L ≤ 50000) :
    Calls Tryz.prog 333 #[.pointer (some ⟨p, 0, none⟩), .int .i64 nmn, .int .i64 nmx] w fun e w' => Squashed (sqL f lo) (.float .f64 (nf n)) lo nmx p g L most T w e w' := by
  rw [sqL_none f lo (fun i hi => hf i (by omega)) (fun i hi => hf i (by omega))]
  obtain ⟨d0, d1, d2, d3, d4⟩ := hd.cells
  have i1 : IntKind.i64.wrap (nmx - nmn + 1) = nmx - nmn + 1 := by rw [IntKind.wrap_i64]; omega
  have i2 : IntKind.i64.wrap (nmx - (L : Int)) = nmx - (L : Int) := by rw [IntKind.wrap_i64]; omega
  have i3 : IntKind.i64.wrap (nmx - (L : Int) + 1) = lo := by rw [IntKind.wrap_i64]; omega
  have i4 : nmx - (L : Int) + 1 = lo := hlo.symm
  have i5 : IntKind.i64.wrap (off - lo) = off - lo := by rw [IntKind.wrap_i64]; omega
  have q1 : ¬ mx ≤ lo := by omega
  have q2 : ¬ off - lo < 0 := by omega
  obtain ⟨ma, hma⟩ : ∃ ma : Nat, mn = off + ma := ⟨(mn - off).toNat, by omega⟩
  obtain ⟨xa, hxa⟩ : ∃ xa : Nat, mx = off + xa := ⟨(mx - off).toNat, by omega⟩
  have hd2 := hd
  rw [hma, hxa] at hd2
  have HSH := shift_any p g L cp ma xa (mn - lo).toNat [.int .i64 (most : Int), .bool col] T (fun j => f (off + j)) (.float .f64 (nf n)) off (off - lo) w hd2 hr hpg (by omega) (by omega) (by omega) (by omega) (fun j hj => hf _ (by omega)) o3 o4 (by omega)
  rw [show off - (off - lo) = lo from by omega] at HSH
  have HLO := Lib.hid hlo
  have HMA := Lib.hid hma
  have HXA := Lib.hid hxa
  obtain ⟨c0, hc0⟩ : ∃ c0, c0 = nf n := ⟨_, rfl⟩
  rw [← hc0] at HSH d1 ⊢
  clear hd hr hf hlo hc0 hd2 hma hxa d1
  go_enter Tryz.func333, Tryz.ntmps333
  go_wp2_with (go_at_call 239; (with_reducible refine HSH.mono ?_); rintro e w5 ⟨rfl, hd5, hr5, hf5⟩; have HD5 := Lib.hid hd5; have HR5 := Lib.hid hr5; have HF5 := Lib.hid hf5; have s3 := hd5.cells.2.2.2.1; have s4 := hd5.cells.2.2.2.2; have s6 := hd5.cells2.2; have s3f := hd5.free 3; have s4f := hd5.free 4; have s6f := hd5.free 6; clear hd5 hr5 hf5 d0 d2 d3 d4)
  go_end0
  refine ⟨g, cp, rfl, ⟨lo, ((HD5.out.set3 _).set4 _).set6 _, (((HR5.out.other hpg _).other hpg _).other hpg _).ext (fun j hj => ?_), Int.le_refl _, by have := HLO.out; omega, by omega, by omega⟩, hpg, ?_, .inl rfl⟩
  · show f (off + ((j : Int) - (off - lo))) = f (lo + (j : Int))
    congr 1
    omega
  · exact (((HF5.out.setCell (fun _ => .inl rfl) _).setCell (fun _ => .inl rfl) _).setCell (fun _ => .inl rfl) _)

set_option maxRecDepth 100000 in
set_option maxHeartbeats 1000000 in
theorem adjustL_down (f : Int → Nat) (n most : Nat) (col : Bool) (mn mx nmn nmx lo : Int) (p g L cp : Nat) (T : TypeId) (w : World) (off : Int)
   (hd : DS w p [.int .i64 (most : Int), .bool col] T (.slice (some ⟨g, 0, none⟩) L cp) (.float .f64 (nf n)) (.int .i64 off) (.int .i64 mn) (.int .i64 mx)) (hr : Row w g L cp (fun j => f (off + j)))
   (o1 : off ≤ mn) (o2 : mx < off + L) (o3 : -1000000 ≤ off) (o4 : off ≤ 1000000) (hpg : p ≠ g)
   (hf : ∀ i, i < mn ∨ mx < i → f i = 0) (hn : n = tot2 f) (hs : n < 9007199254740992) (h1 : mn ≤ mx) (h2 : nmn ≤ mn) (h3 : mx ≤ nmx) (h4 : (L : Int) < nmx - nmn + 1) (hlo : lo = nmx - L + 1) (h5 : lo < mx) (h6 : off < lo) (b1 : -10000 ≤ nmn) (b2 : nmx ≤ 10000) (b3 : L ≤ 50000) :
    Calls Tryz.prog 333 #[.pointer (some ⟨p, 0, none⟩), .int .i64 nmn, .int .i64 nmx] w fun e w' => Squashed (sqL f lo) (.float .f64 (nf n)) lo nmx p g L most T w e w' := by
  obtain ⟨d0, d1, d2, d3, d4⟩ := hd.cells
  have i1 : IntKind.i64.wrap (nmx - nmn + 1) = nmx - nmn + 1 := by rw [IntKind.wrap_i64]; omega
  have i2 : IntKind.i64.wrap (nmx - (L : Int)) = nmx - (L : Int) := by rw [IntKind.wrap_i64]; omega
  have i3 : IntKind.i64.wrap (nmx - (L : Int) + 1) = lo := by rw [IntKind.wrap_i64]; omega
  have i4 : nmx - (L : Int) + 1 = lo := hlo.symm
  have i5 : IntKind.i64.wrap (off - lo) = off - lo := by rw [IntKind.wrap_i64]; omega
  have q1 : ¬ mx ≤ lo := by omega
  have q2 : off - lo < 0 := by omega
  have HD := Lib.hid hd
  have HR := Lib.hid hr
  have HF := Lib.hid hf
  have HN := Lib.hid hn
  have HS := Lib.hid hs
  have HLO := Lib.hid hlo
  obtain ⟨c0, hc0⟩ : ∃ c0, c0 = nf n := ⟨_, rfl⟩
  have HC := Lib.hid hc0
  rw [← hc0]
  clear hd hr hf hn hs hlo hc0 d1
  go_enter Tryz.func333, Tryz.ntmps333
  go_wp2
  clear d0 d2 d3 d4
  go_loopw [7, 8] (fun v i wr => SumRelL f mn lo w wr v i) (fun _ i _ => (lo - intOf i).toNat)
  case atStart => exact ⟨mn, rfl, Int.le_refl _, .inr rfl, by rw [cum_none f mn (fun i hi => HF.out i (.inl hi)), nf_zero], Fr.refl _ _⟩
  case round =>
    obtain ⟨k, rfl, hk1, hk2, rfl, hfr⟩ := hrel
    have hdw := HD.out.fr hfr (fun h => h)
    have hrw := HR.out.fr hfr (fun h => h)
    obtain ⟨d0, d1, d2, d3, d4⟩ := hdw.cells
    rw [← HC.out] at d1
    by_cases hlt : k < lo
    · obtain ⟨j, hj⟩ : ∃ j : Nat, k - off = (j : Int) := ⟨(k - off).toNat, by omega⟩
      have hjL : j < L := by omega
      have hjL' : (j : Int) < (L : Int) := by omega
      have i6 : IntKind.i64.wrap (k - off) = (j : Int) := by rw [IntKind.wrap_i64]; omega
      have hcell := hrw.cell j hjL
      rw [show off + (j : Int) = k from by omega] at hcell
      have hle := cum_le_tot f (k + 1) (by omega)
      have hsum := cum_succ f k (by omega)
      have hadd := fun w : World => run_float_arith (P := Tryz.prog) w .add 30 .f64 _ _ _ (nf_add (cum f k) (f k) (by have := HN.out; have := HS.out; omega))
      rw [← hsum] at hadd
      have HFR := Lib.hid hfr
      have HJ := Lib.hid hj
      clear hfr hdw hrw d1 d3 d4 hle hsum
      go_wp2
      go_quiet (fail)
      go_wp2
      go_roundw
      case rel => exact ⟨k + 1, by go_num, by omega, .inl (by omega), rfl, HFR.out.drewN nq⟩
      case measure => simp [intOf]; omega
    · have hcl : cum f k = cum f lo := by
        rcases hk2 with h | h
        · rw [show k = lo from by omega]
        · rw [h, cum_none f mn (fun i hi => HF.out i (.inl hi)), cum_none f lo (fun i hi => HF.out i (.inl (by omega)))]
      rw [hcl]
      have i6 : IntKind.i64.wrap (lo - 1) = lo - 1 := by rw [IntKind.wrap_i64]; omega
      have HRS := reset_any p g L cp [.int .i64 (most : Int), .bool col] T (fun j => f (off + j)) (.float .f64 (nf n)) (.int .i64 mn) (.int .i64 mx) off mn (lo - 1) wr.drew hdw hrw hpg o1 (by omega) o3 o4 (by omega) (by omega) (by omega)
      have HDW := Lib.hid hdw
      have HFR := Lib.hid hfr
      obtain ⟨nk, hnk⟩ : ∃ nk, nk = nf (cum f lo) := ⟨_, rfl⟩
      rw [← hnk]
      have HNK := Lib.hid hnk
      clear hfr hdw hrw hnk hcl hk1 hk2
      go_wp2
      go_still_tail 10, (by kernel_rfl)
      show wpList _ _ _ _ _ wr.drew
      go_wp2_with (go_at_call 240; (with_reducible refine HRS.mono ?_); rintro e w5 ⟨rfl, hr5, hf5⟩; have HR5 := Lib.hid hr5; have HF5 := Lib.hid hf5; have HD5 := Lib.hid (HDW.out.drew.fr hf5 hpg); clear hr5 hf5 d0 d1 d2 d3 d4)
      obtain ⟨d0, d1, d2, d3, d4⟩ := HD5.out.cells
      have s3f := HD5.out.free 3
      obtain ⟨j, hj⟩ : ∃ j : Nat, lo - off = (j : Int) := ⟨(lo - off).toNat, by omega⟩
      obtain ⟨xa, hxa⟩ : ∃ xa : Nat, mx = off + xa := ⟨(mx - off).toNat, by omega⟩
      have hjL : j < L := by omega
      have hjL' : (j : Int) < (L : Int) := by omega
      have i7 : IntKind.i64.wrap (lo - off) = (j : Int) := by rw [IntKind.wrap_i64]; omega
      have hcell := HR5.out.cell j hjL
      have hz1 : zer (mn - off) (lo - 1 - off) (fun j => f (off + j)) (j : Int) = f lo := by
        unfold zer
        rw [if_neg (by omega)]
        show f (off + (j : Int)) = f lo
        rw [show off + (j : Int) = lo from by omega]
      rw [hz1] at hcell
      have hfree := HR5.out.free j
      have hle := cum_le_tot f (lo + 1) (by omega)
      have hsum := cum_succ f lo (by omega)
      have hadd := fun w : World => run_float_arith (P := Tryz.prog) w .add 30 .f64 _ _ _ (nf_add (f lo) (cum f lo) (by have := HN.out; have := HS.out; omega))
      rw [Nat.add_comm (f lo), ← hsum, ← HNK.out] at hadd
      have HSH : ∀ W, DS W p [.int .i64 (most : Int), .bool col] T (.slice (some ⟨g, 0, none⟩) L cp) (.float .f64 (nf n)) (.int .i64 off) (.int .i64 lo) (.int .i64 mx) → Row W g L cp (fun j => sqL f lo (off + j)) →
          Calls Tryz.prog 239 #[.pointer (some ⟨p, 0, none⟩), .int .i64 (off - lo)] W fun e w' => e = .returned (.tuple #[]) ∧
            DS w' p [.int .i64 (most : Int), .bool col] T (.slice (some ⟨g, 0, none⟩) L cp) (.float .f64 (nf n)) (.int .i64 lo) (.int .i64 lo) (.int .i64 mx) ∧ Row w' g L cp (fun j => sqL f lo (lo + j)) ∧ Fr (fun b => b = p ∨ b = g) W w' := by
        intro W hdW hrW
        have e1 : lo = off + (j : Int) := by omega
        have hdW2 : DS W p [.int .i64 (most : Int), .bool col] T (.slice (some ⟨g, 0, none⟩) L cp) (.float .f64 (nf n)) (.int .i64 off) (.int .i64 (off + (j : Int))) (.int .i64 (off + (xa : Int))) := by rw [← e1, ← hxa]; exact hdW
        have h := shift_any p g L cp j xa 0 [.int .i64 (most : Int), .bool col] T (fun j => sqL f lo (off + j)) (.float .f64 (nf n)) off (off - lo) W hdW2 hrW hpg (by omega) (by omega) (by omega) (by omega)
          (fun i hi => by
            rcases hi with hi | hi
            · show sqL f lo (off + i) = 0
              unfold sqL; rw [if_pos (by omega)]
            · show sqL f lo (off + i) = 0
              unfold sqL; rw [if_neg (by omega), if_neg (by omega)]; exact HF.out _ (.inr (by omega))) o3 o4 (by omega)
        rw [← e1, ← hxa, show off - (off - lo) = lo from by omega] at h
        refine h.mono fun e w' ⟨h1, h2, h3, h4⟩ => ⟨h1, h2, h3.ext fun i hi => ?_, h4⟩
        show sqL f lo (off + ((i : Int) - (off - lo))) = sqL f lo (lo + (i : Int))
        congr 1
        omega
      have hrow : ∀ i : Nat, i < L → (if (i : Int) = (j : Int) then cum f (lo + 1) else zer (mn - off) (lo - 1 - off) (fun j => f (off + j)) (i : Int)) = sqL f lo (off + (i : Int)) := by
        intro i hi
        unfold sqL zer
        by_cases hij : (i : Int) = (j : Int)
        · rw [if_pos hij, if_neg (by omega), if_pos (by omega)]
        · rw [if_neg hij]
          by_cases hil : off + (i : Int) < lo
          · rw [if_pos hil]
            by_cases him : mn - off ≤ (i : Int)
            · rw [if_pos (by omega)]
            · rw [if_neg (by omega)]; exact HF.out _ (.inl (by omega))
          · rw [if_neg hil, if_neg (by omega), if_neg (by omega)]
      have HROW := Lib.hid hrow
      have HJ := Lib.hid hj
      have HXA := Lib.hid hxa
      clear hj hxa hle hsum hz1 hrow
      go_still_tail 17, (by kernel_rfl)
      show wpList _ _ _ _ _ w5.drew
      go_wp2_with fail
      have hd6 := (HD5.out.row hpg j (.float .f64 (nf (cum f (lo + 1))))).set3 (.int .i64 lo)
      have hr6 := ((HR5.out.set j (cum f (lo + 1)) hjL).other (p := ⟨p, 3, none⟩) hpg (.int .i64 lo)).ext (b := fun i => sqL f lo (off + i)) HROW.out
      have hf6 := ((((HFR.out.mono (U := fun b => b = p ∨ b = g) (fun _ _ h => h.elim)).drew.trans HF5.out (U := fun b => b = p ∨ b = g) (fun _ _ h => h) (fun _ _ h => .inr h)).setCell (p := ⟨g, j, none⟩) (fun _ => .inr rfl) (.float .f64 (nf (cum f (lo + 1))))).setCell (p := ⟨p, 3, none⟩) (fun _ => .inl rfl) (.int .i64 lo))
      refine (HSH _ hd6.drew hr6.drew).mono ?_
      have HF6 := Lib.hid hf6.drew
      clear hd6 hr6 hf6 HSH d0 d1 d2 d3 d4 hcell hfree hadd s3f
      rintro e w7 ⟨rfl, hd7, hr7, hf7⟩
      obtain ⟨d0, d1, d2, d3, d4⟩ := hd7.cells
      obtain ⟨-, d6⟩ := hd7.cells2
      have s4 := hd7.free 4
      have s6 := hd7.free 6
      have HD7 := Lib.hid hd7
      have HR7 := Lib.hid hr7
      have HF7 := Lib.hid hf7
      clear hd7 hr7 hf7 d1
      go_wp2
      go_end0
      rw [HC.out]
      refine ⟨g, cp, rfl, ⟨lo, (HD7.out.set4 _).set6 _, (HR7.out.other hpg _).other hpg _, Int.le_refl _, by have := HLO.out; omega, by omega, by omega⟩, hpg, ?_, .inl rfl⟩
      exact (((HF6.out.trans HF7.out (fun _ _ h => h) (fun _ _ h => h)).setCell (fun _ => .inl rfl) _).setCell (fun _ => .inl rfl) _)

/-- adjust where the range is too wide. -/
theorem adjustL_wide (f : Int → Nat) (n most : Nat) (col : Bool) (mn mx nmn nmx lo : Int) (p g L cp : Nat) (T : TypeId) (w : World) (h : DenseOk f (.float .f64 (nf n)) mn mx p g L cp [.int .i64 (most : Int), .bool col] T w) (hpg : p ≠ g)
   (hf : ∀ i, i < mn ∨ mx < i → f i = 0) (hn : n = tot2 f) (hs : n < 9007199254740992) (h1 : mn ≤ mx) (h2 : nmn ≤ mn) (h3 : mx ≤ nmx) (h4 : (L : Int) < nmx - nmn + 1) (hlo : lo = nmx - L + 1) (hL : 0 < L) (b1 : -10000 ≤ nmn) (b2 : nmx ≤ 10000) (b3 : L ≤ 50000) :
    Calls Tryz.prog 333 #[.pointer (some ⟨p, 0, none⟩), .int .i64 nmn, .int .i64 nmx] w fun e w' => Squashed (sqL f lo) (.float .f64 (nf n)) lo nmx p g L most T w e w' := by
  by_cases h5 : mx ≤ lo
  · exact adjustL_one f n most col mn mx nmn nmx lo p g L cp T w h hpg hf hn h1 h2 h3 h4 hlo h5 hL b1 b2 b3
  · obtain ⟨off, hd, hr, o1, o2, o3, o4⟩ := h
    by_cases h6 : lo ≤ off
    · exact adjustL_up f n most col mn mx nmn nmx lo p g L cp T w off hd hr o1 o2 o3 o4 hpg hf h1 h2 h3 h4 hlo (by omega) h6 b1 b2 b3
    · exact adjustL_down f n most col mn mx nmn nmx lo p g L cp T w off hd hr o1 o2 o3 o4 hpg hf hn hs h1 h2 h3 h4 hlo (by omega) (by omega) b1 b2 b3
end Go.Proofs.YtnmbjalojgccmaaGreat
end
