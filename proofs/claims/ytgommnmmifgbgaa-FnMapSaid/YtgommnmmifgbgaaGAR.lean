/-
  laws.FnMap, at each kind.
-/
import Derived.Test.YtgommnmmifgbgaaGAG
import Derived.Test.YtgommnmmifgbgaaGAQ
import Derived.Deep.QuietTactic
section
namespace Go.Proofs.Ytgommnmmifgbgaa
open Go.RowKit

/-- What is told, as the law asks. -/
structure ToldOk (idx : Nat → Option Int) (lower value : Int → Option Nat) (part a : Nat) (t : ToldV) (s u : Nat) : Prop where
  idx : idx a = some t.i
  val : value t.i = some t.v
  low : lower t.i = some t.l
  up : lower (t.i + 1) = some t.u
  near : nearO t.v a part = some true
  hs : fmul a 4607182418804521008 = some s
  ls : fgt t.l s = false
  hu : fmul a 4607182418791010209 = some u
  us : flt t.u u = false
  i0 : -1000000 ≤ t.i
  i1 : t.i ≤ 1000000

theorem told_cells {w : World} {ao : Option Addr} {cr : Nat} {t0 t1 : ToldV} (h : w.ownsRow 0 31 4 (.slice ao 2 cr) 2 (tc [t0, t1])) :
    ∃ g, ao = some ⟨g, 0, none⟩ ∧ w.cell? ⟨g, 0, none⟩ = some (.int .i64 t0.i) ∧ w.cell? ⟨g, 1, none⟩ = some (.float .f64 t0.v) ∧ w.cell? ⟨g, 2, none⟩ = some (.float .f64 t0.l) ∧ w.cell? ⟨g, 3, none⟩ = some (.float .f64 t0.u) ∧
      w.cell? ⟨g, 4, none⟩ = some (.int .i64 t1.i) ∧ w.cell? ⟨g, 5, none⟩ = some (.float .f64 t1.v) ∧ w.cell? ⟨g, 6, none⟩ = some (.float .f64 t1.l) ∧ w.cell? ⟨g, 7, none⟩ = some (.float .f64 t1.u) := by
  rcases h.2 with ⟨h1, h2⟩ | ⟨g, cap, cur, h1, _, hh, hc, hm, _⟩
  · cases h1
  · cases h1
    have key : ∀ i u, (tc [t0, t1])[i]? = some u → w.cell? ⟨g, i, none⟩ = some u := fun i u hi => by
      have hc := h.cells (g := g) rfl i u hi
      have hadd : (⟨g, 0, none⟩ : Addr).add i = ⟨g, i, none⟩ := by unfold Addr.add; split <;> simp_all
      rwa [hadd] at hc
    exact ⟨g, rfl, key 0 _ rfl, key 1 _ rfl, key 2 _ rfl, key 3 _ rfl, key 4 _ rfl, key 5 _ rfl, key 6 _ rfl, key 7 _ rfl⟩

def LawRel (w2 wr : World) (i : Value) : Prop := ∃ k : Nat, k ≤ 2 ∧ i = .int .i64 (k : Int) ∧ wr = w2

set_option maxRecDepth 100000 in
set_option maxHeartbeats 2000000 in
theorem fnMap_in {kind : Int} {of_ : Nat → Option (Nat × Nat × Nat × Nat × Nat)} {acc : Nat → Option Nat} {idx : Nat → Nat → Nat → Option Int} {lower : Nat → Nat → Int → Option Nat} {value : Nat → Nat → Nat → Int → Option Nat} (K : MapKind kind of_ acc idx lower value)
   (p accv g off mult mn mx ra part x a b s0 u0 s1 u1 : Nat) (t0 t1 : ToldV) (w : World) (hk : 0 ≤ kind) (hk2 : kind ≤ 2) (hp : 1 ≤ p) (hp2 : p ≤ 50)
   (hacc : fdiv (floatOfInt .f64 p) 4636737291354636288 = some accv) (hmk : of_ accv = some (g, off, mult, mn, mx)) (hra : acc g = some ra) (hnear : nearO ra accv 4472406533629990549 = some true)
   (hmn : flt mn 4517329193108106637 = true) (hmx : fgt mx 4696837146684686336 = true) (hx : fmul accv 4607182418804521008 = some x) (hpart : fadd x 4427486594234968593 = some part)
   (ha : fitsB a = true) (hb : fitsB b = true) (ha0 : fle a 0 = false) (hb0 : fle b 0 = false) (T0 : ToldOk (idx off mult) (lower off mult) (value g off mult) part a t0 s0 u0) (T1 : ToldOk (idx off mult) (lower off mult) (value g off mult) part b t1 s1 u1)
   (hle : fle a b = true → t0.i ≤ t1.i) (hge : fge a b = true → t1.i ≤ t0.i) :
    Calls Try.prog 3 #[.int .i64 kind, .int .i64 p, .float .f64 a, .float .f64 b] w fun e w' => IsTrue w e w' := by
  have g1 : ¬ kind < 0 := by omega
  have g2 : ¬ 2 < kind := by omega
  have g3 : ¬ (p : Int) < 1 := by omega
  have g4 : ¬ 50 < (p : Int) := by omega
  have hcF := fun w => run_convert_int_float (P := Try.prog) w 3 22 .i64 .f64 p (by simp [Try.underlying3]) Try.underlying22
  have hd : ∀ w : World, (binOp .quo 22 (.float .f64 (floatOfInt .f64 p)) (.float .f64 4636737291354636288)).run Try.prog w = .ok (.float .f64 accv) w := fun w => run_float_arith (P := Try.prog) w .quo 22 .f64 _ _ accv hacc
  have qx := fun w : World => run_float_arith (P := Try.prog) w .mul 22 .f64 accv 4607182418804521008 x hx
  have qp := fun w : World => run_float_arith (P := Try.prog) w .add 22 .f64 x 4427486594234968593 part hpart
  have qs0 := fun w : World => run_float_arith (P := Try.prog) w .mul 22 .f64 a 4607182418804521008 s0 T0.hs
  have qu0 := fun w : World => run_float_arith (P := Try.prog) w .mul 22 .f64 a 4607182418791010209 u0 T0.hu
  have qs1 := fun w : World => run_float_arith (P := Try.prog) w .mul 22 .f64 b 4607182418804521008 s1 T1.hs
  have qu1 := fun w : World => run_float_arith (P := Try.prog) w .mul 22 .f64 b 4607182418791010209 u1 T1.hu
  have k1 : (FloatKind.f64.format.order mn 4517329193108106637 == some .lt) = true := hmn
  have k2 : (FloatKind.f64.format.order mx 4696837146684686336 == some .gt) = true := hmx
  have k3 : (FloatKind.f64.format.order t0.l s0 == some .gt) = false := T0.ls
  have k4 : (FloatKind.f64.format.order t0.u u0 == some .lt) = false := T0.us
  have k5 : (FloatKind.f64.format.order t1.l s1 == some .gt) = false := T1.ls
  have k6 : (FloatKind.f64.format.order t1.u u1 == some .lt) = false := T1.us
  have k7 : (FloatKind.f64.format.order a 0 == some .lt || FloatKind.f64.format.order a 0 == some .eq) = false := ha0
  have k8 : (FloatKind.f64.format.order b 0 == some .lt || FloatKind.f64.format.order b 0 == some .eq) = false := hb0
  have FA := fun w => fits_any a w
  have FB := fun w => fits_any b w
  rw [ha] at FA
  rw [hb] at FB
  have N0 := fun w => nearO_any ra accv 4472406533629990549 true w hnear
  have N1 := fun w => nearO_any t0.v a part true w T0.near
  have N2 := fun w => nearO_any t1.v b part true w T1.near
  have HM : ∀ w gl, LieV w gl [a, b] → gl < w.heap.size → Calls Try.prog 7 #[.int .i64 kind, .float .f64 accv, .slice (some ⟨gl, 0, none⟩) 2 2] w fun e w' => MapGives [t0, t1] ra mn mx w e w' := fun w gl h1 h2 =>
    map_any K accv g off mult mn mx ra gl 2 [a, b] [t0, t1] w h1 h2 (show 2 < 1000 by decide) hmk hra rfl (fun k hk => by
      match k, hk with
      | 0, _ => exact ⟨a, rfl, T0.idx, T0.val, T0.low, T0.up, T0.i0, T0.i1⟩
      | 1, _ => exact ⟨b, rfl, T1.idx, T1.val, T1.low, T1.up, T1.i0, T1.i1⟩)
  obtain ⟨i0, v0, l0, z0⟩ := t0
  obtain ⟨i1, v1, l1, z1⟩ := t1
  dsimp only at *
  have HLE := Lib.hid hle
  have HGE := Lib.hid hge
  clear hacc hmk hra hnear hmn hmx hx hpart ha hb ha0 hb0 T0 T1 hle hge
  revert hcF hd
  generalize floatOfInt .f64 p = q
  intro hcF hd
  go_enter Try.func3, Try.ntmps3
  have HL : ∀ n, LieV ((w.drewN n).alloc (.cells #[.float .f64 a, .float .f64 b] 22)) w.heap.size [a, b] := fun n i hi => by
    have h := cell_of_row _ w.heap.size i _ _ _ (heap_alloc_new (w.drewN n) (.cells #[.float .f64 a, .float .f64 b] 22))
    rw [Nat.zero_add, h]
    match i, hi with
    | 0, _ => rfl
    | 1, _ => rfl
  have HLT : ∀ n, w.heap.size < ((w.drewN n).alloc (.cells #[.float .f64 a, .float .f64 b] 22)).heap.size := fun n => by
    rw [World.size_alloc]; show w.heap.size < w.heap.size + 1; omega
  go_wp2_with (first | (go_at_call 5; (with_reducible refine (FA _).mono ?_); rintro e w1 ⟨rfl, ka, rfl⟩) | (go_at_call 5; (with_reducible refine (FB _).mono ?_); rintro e w1 ⟨rfl, kb, rfl⟩) | fail)
  refine (HM _ _ (HL (ka + kb)) (HLT (ka + kb))).mono ?_
  rintro e w2 ⟨ao, cr, rfl, hrow, hbl⟩
  obtain ⟨gt, rfl, c0, c1, c2, c3, c4, c5, c6, c7⟩ := told_cells hrow
  have hB : Below w.heap.size w w2 := ((show Below w.heap.size w (w.drewN (ka + kb)) from ⟨rfl, rfl, rfl, Nat.le_refl _, fun _ _ => rfl⟩).alloc (Nat.le_refl _) _).trans (hbl.mono (by rw [World.size_alloc]; show w.heap.size ≤ w.heap.size + 1; omega))
  have hgt : gt < w2.heap.size := World.block_lt_of_cell? w2 _ c0
  have HB := Lib.hid hB
  clear hrow hbl hB FA FB HM HL HLT
  go_wp2_with (first | (go_at_call 8; (with_reducible refine (N0 _).mono ?_); rintro e w3 ⟨rfl, rfl⟩) | fail)
  have hal : ∀ k, k < w2.heap.size → (w2.alloc (.cells #[.float .f64 a, .float .f64 b] 22)).heap[k]? = w2.heap[k]? := fun k hk => Below.heap_alloc w2 _ k hk
  have hbe : Below w2.heap.size w2 (w2.alloc (.cells #[.float .f64 a, .float .f64 b] 22)) := (Below.refl _ w2).alloc (Nat.le_refl _) _
  have e0 := cell_of_row _ w2.heap.size 0 _ _ _ (heap_alloc_new w2 (.cells #[.float .f64 a, .float .f64 b] 22))
  have e1 := cell_of_row _ w2.heap.size 1 _ _ _ (heap_alloc_new w2 (.cells #[.float .f64 a, .float .f64 b] 22))
  have d0 := (hbe.cell hgt).trans c0
  have d1 := (hbe.cell hgt).trans c1
  have d2 := (hbe.cell hgt).trans c2
  have d3 := (hbe.cell hgt).trans c3
  have d4 := (hbe.cell hgt).trans c4
  have d5 := (hbe.cell hgt).trans c5
  have d6 := (hbe.cell hgt).trans c6
  have d7 := (hbe.cell hgt).trans c7
  have HB2 : Hid (Below w.heap.size w (w2.alloc (.cells #[.float .f64 a, .float .f64 b] 22))) := HB.out.trans (hbe.mono HB.out.size)
  clear hal hbe c0 c1 c2 c3 c4 c5 c6 c7 HB
  revert e0 e1 d0 d1 d2 d3 d4 d5 d6 d7 HB2
  generalize w2.alloc (.cells #[.float .f64 a, .float .f64 b] 22) = w9
  intro e0 e1 d0 d1 d2 d3 d4 d5 d6 d7 HB2
  go_loopw [91] (fun i wr => LawRel w9 wr i) (fun i _ => 2 - (intOf i).toNat)
  case atStart => exact ⟨0, by omega, rfl, rfl⟩
  case round =>
    obtain ⟨k, hk3, rfl, rfl⟩ := hrel
    rcases (show k = 0 ∨ k = 1 ∨ k = 2 by omega) with rfl | rfl | rfl
    · go_wp2_with (first | (go_at_call 8; (with_reducible refine (N1 _).mono ?_); rintro e w3 ⟨rfl, rfl⟩) | fail)
      go_roundw
      case rel => exact ⟨1, by omega, by go_num, rfl⟩
      case measure => simp [intOf]
    · go_wp2_with (first | (go_at_call 8; (with_reducible refine (N2 _).mono ?_); rintro e w3 ⟨rfl, rfl⟩) | fail)
      go_roundw
      case rel => exact ⟨2, by omega, by go_num, rfl⟩
      case measure => simp [intOf]
    · clear hk3
      go_wp2
      obtain ⟨c1, hc1⟩ : ∃ c, fle a b = c := ⟨_, rfl⟩
      obtain ⟨c2, hc2⟩ : ∃ c, fge a b = c := ⟨_, rfl⟩
      have m1 : c1 = true → ¬ i1 < i0 := fun h => by have := HLE.out (hc1.trans h); omega
      have m2 : c2 = true → ¬ i0 < i1 := fun h => by have := HGE.out (hc2.trans h); omega
      have o1 : (FloatKind.f64.format.order a b == some .lt || FloatKind.f64.format.order a b == some .eq) = c1 := hc1
      have o2 : (FloatKind.f64.format.order a b == some .gt || FloatKind.f64.format.order a b == some .eq) = c2 := hc2
      clear hc1 hc2 N0 N1 N2 qx qp qs0 qs1 qu0 qu1 k1 k2 k3 k4 k5 k6 k7 k8 d1 d2 d3 d5 d6 d7 e0 e1 HLE HGE
      cases c1 <;> cases c2 <;> (
        first | (have m1 := m1 rfl) | clear m1
        first | (have m2 := m2 rfl) | clear m2
        go_quiet (fail)
        go_wp2_with (go_at_call 6; refine (works_any _).mono ?_; rintro e w5 ⟨rfl, hb5⟩)
        go_ret
        exact ⟨rfl, (show Below w.heap.size w (wr.drewN nq) from ⟨HB2.out.1, HB2.out.2, HB2.out.3, HB2.out.4, HB2.out.5⟩).trans (hb5.mono HB2.out.size)⟩)

set_option maxRecDepth 100000 in
set_option maxHeartbeats 2000000 in
theorem fnMap_out (kind p : Int) (a b : Nat) (w : World) (h : ¬ (0 ≤ kind ∧ kind ≤ 2 ∧ 1 ≤ p ∧ p ≤ 50 ∧ fitsB a = true ∧ fitsB b = true ∧ fle a 0 = false ∧ fle b 0 = false)) :
    Calls Try.prog 3 #[.int .i64 kind, .int .i64 p, .float .f64 a, .float .f64 b] w fun e w' => IsTrue w e w' := by
  have FA := fun w => fits_any a w
  have FB := fun w => fits_any b w
  obtain ⟨fa, hfa⟩ : ∃ c, fitsB a = c := ⟨_, rfl⟩
  obtain ⟨fb, hfb⟩ : ∃ c, fitsB b = c := ⟨_, rfl⟩
  obtain ⟨na, hna⟩ : ∃ c, fle a 0 = c := ⟨_, rfl⟩
  obtain ⟨nb, hnb⟩ : ∃ c, fle b 0 = c := ⟨_, rfl⟩
  have k7 : (FloatKind.f64.format.order a 0 == some .lt || FloatKind.f64.format.order a 0 == some .eq) = na := hna
  have k8 : (FloatKind.f64.format.order b 0 == some .lt || FloatKind.f64.format.order b 0 == some .eq) = nb := hnb
  rw [hfa] at FA
  rw [hfb] at FB
  rw [hfa, hfb, hna, hnb] at h
  clear hfa hfb hna hnb
  by_cases g1 : kind < 0
  · clear h
    go_enter Try.func3, Try.ntmps3
    go_wp2_with (first | (go_at_call 5; (with_reducible refine (FA _).mono ?_); rintro e w1 ⟨rfl, ka, rfl⟩) | (go_at_call 5; (with_reducible refine (FB _).mono ?_); rintro e w1 ⟨rfl, kb, rfl⟩) | (go_at_call 6; refine (works_any _).mono ?_; rintro e w2 ⟨rfl, hb2⟩))
    go_ret
    exact ⟨rfl, hb2⟩
  · by_cases g2 : 2 < kind
    · clear h
      go_enter Try.func3, Try.ntmps3
      go_wp2_with (first | (go_at_call 5; (with_reducible refine (FA _).mono ?_); rintro e w1 ⟨rfl, ka, rfl⟩) | (go_at_call 5; (with_reducible refine (FB _).mono ?_); rintro e w1 ⟨rfl, kb, rfl⟩) | (go_at_call 6; refine (works_any _).mono ?_; rintro e w2 ⟨rfl, hb2⟩))
      go_ret
      exact ⟨rfl, hb2⟩
    · by_cases g3 : p < 1
      · clear h
        go_enter Try.func3, Try.ntmps3
        go_wp2_with (first | (go_at_call 5; (with_reducible refine (FA _).mono ?_); rintro e w1 ⟨rfl, ka, rfl⟩) | (go_at_call 5; (with_reducible refine (FB _).mono ?_); rintro e w1 ⟨rfl, kb, rfl⟩) | (go_at_call 6; refine (works_any _).mono ?_; rintro e w2 ⟨rfl, hb2⟩))
        go_ret
        exact ⟨rfl, hb2⟩
      · by_cases g4 : 50 < p
        · clear h
          go_enter Try.func3, Try.ntmps3
          go_wp2_with (first | (go_at_call 5; (with_reducible refine (FA _).mono ?_); rintro e w1 ⟨rfl, ka, rfl⟩) | (go_at_call 5; (with_reducible refine (FB _).mono ?_); rintro e w1 ⟨rfl, kb, rfl⟩) | (go_at_call 6; refine (works_any _).mono ?_; rintro e w2 ⟨rfl, hb2⟩))
          go_ret
          exact ⟨rfl, hb2⟩
        · cases fa
          · clear h
            go_enter Try.func3, Try.ntmps3
            go_wp2_with (first | (go_at_call 5; (with_reducible refine (FA _).mono ?_); rintro e w1 ⟨rfl, ka, rfl⟩) | (go_at_call 5; (with_reducible refine (FB _).mono ?_); rintro e w1 ⟨rfl, kb, rfl⟩) | (go_at_call 6; refine (works_any _).mono ?_; rintro e w2 ⟨rfl, hb2⟩))
            go_ret
            exact ⟨rfl, (show Below w.heap.size w (w.drewN ka) from ⟨rfl, rfl, rfl, Nat.le_refl _, fun _ _ => rfl⟩).trans hb2⟩
          · cases fb
            · clear h
              go_enter Try.func3, Try.ntmps3
              go_wp2_with (first | (go_at_call 5; (with_reducible refine (FA _).mono ?_); rintro e w1 ⟨rfl, ka, rfl⟩) | (go_at_call 5; (with_reducible refine (FB _).mono ?_); rintro e w1 ⟨rfl, kb, rfl⟩) | (go_at_call 6; refine (works_any _).mono ?_; rintro e w2 ⟨rfl, hb2⟩))
              go_ret
              exact ⟨rfl, (show Below w.heap.size w (w.drewN (ka + kb)) from ⟨rfl, rfl, rfl, Nat.le_refl _, fun _ _ => rfl⟩).trans hb2⟩
            · cases na
              · cases nb
                · exact absurd ⟨by omega, by omega, by omega, by omega, rfl, rfl, rfl, rfl⟩ h
                · clear h
                  go_enter Try.func3, Try.ntmps3
                  go_wp2_with (first | (go_at_call 5; (with_reducible refine (FA _).mono ?_); rintro e w1 ⟨rfl, ka, rfl⟩) | (go_at_call 5; (with_reducible refine (FB _).mono ?_); rintro e w1 ⟨rfl, kb, rfl⟩) | (go_at_call 6; refine (works_any _).mono ?_; rintro e w2 ⟨rfl, hb2⟩))
                  go_ret
                  exact ⟨rfl, (show Below w.heap.size w (w.drewN (ka + kb)) from ⟨rfl, rfl, rfl, Nat.le_refl _, fun _ _ => rfl⟩).trans hb2⟩
              · clear h
                go_enter Try.func3, Try.ntmps3
                go_wp2_with (first | (go_at_call 5; (with_reducible refine (FA _).mono ?_); rintro e w1 ⟨rfl, ka, rfl⟩) | (go_at_call 5; (with_reducible refine (FB _).mono ?_); rintro e w1 ⟨rfl, kb, rfl⟩) | (go_at_call 6; refine (works_any _).mono ?_; rintro e w2 ⟨rfl, hb2⟩))
                go_ret
                exact ⟨rfl, (show Below w.heap.size w (w.drewN (ka + kb)) from ⟨rfl, rfl, rfl, Nat.le_refl _, fun _ _ => rfl⟩).trans hb2⟩

theorem toldOk_of {idx : Nat → Option Int} {lower value : Int → Option Nat} {p part v : Nat} {i : Int} (h : TellsV idx lower value p part v) (hi : idx v = some i) (b0 : -100000 ≤ i) (b1 : i ≤ 100000) : ∃ t s u, t.i = i ∧ ToldOk idx lower value part v t s u := by
  obtain ⟨j, V, b, b', s, u, h1, h2, h3, h4, h5, h6, h7, h8, h9, -⟩ := h
  rw [hi] at h1; cases h1
  exact ⟨⟨i, V, b, b'⟩, s, u, rfl, hi, h2, h3, h4, h5, h6, h7, h8, h9, (show -1000000 ≤ i by omega), (show i ≤ 1000000 by omega)⟩

theorem fle_bits {a b : Nat} (ha : 4517329193108106637 ≤ a) (ha2 : a ≤ 4696837146684686336) (hb : 4517329193108106637 ≤ b) (hb2 : b ≤ 4696837146684686336) : fle a b = decide (a ≤ b) := by
  rw [fle_fv (fv_rv (x := a) (by omega) (by omega)) (fv_rv (x := b) (by omega) (by omega)), rvN_rung (by omega), rvN_rung (by omega)]
  have := rungV_lt (r := b) (t := a)
  by_cases h : a ≤ b
  · have h2 : ¬ rungV b < rungV a := fun hc => by have := this.1 hc; omega
    rw [decide_eq_true h, decide_eq_true (by omega)]
  · have h2 : rungV b < rungV a := this.2 (by omega)
    rw [decide_eq_false h, decide_eq_false (by omega)]
theorem fge_bits {a b : Nat} (ha : 4517329193108106637 ≤ a) (ha2 : a ≤ 4696837146684686336) (hb : 4517329193108106637 ≤ b) (hb2 : b ≤ 4696837146684686336) : fge a b = decide (b ≤ a) := by
  rw [fge_fv (fv_rv (x := a) (by omega) (by omega)) (fv_rv (x := b) (by omega) (by omega)), ← fle_bits hb hb2 ha ha2, fle_fv (fv_rv (x := b) (by omega) (by omega)) (fv_rv (x := a) (by omega) (by omega))]

/-- The law at a kind. -/
theorem fnMap_kind {kind : Int} {of_ : Nat → Option (Nat × Nat × Nat × Nat × Nat)} {acc : Nat → Option Nat} {idx : Nat → Nat → Nat → Option Int} {lower : Nat → Nat → Int → Option Nat} {value : Nat → Nat → Nat → Int → Option Nat} (K : MapKind kind of_ acc idx lower value)
   (p a b : Nat) (w : World) (hk : 0 ≤ kind) (hk2 : kind ≤ 2) (hp : 1 ≤ p) (hp2 : p ≤ 50) (ok : MapOk of_ acc idx lower value p) (la : a < 18446744073709551616) (lb : b < 18446744073709551616) (ha : fitsB a = true) (hb : fitsB b = true) (ha0 : fle a 0 = false) (hb0 : fle b 0 = false) :
    Calls Try.prog 3 #[.int .i64 kind, .int .i64 p, .float .f64 a, .float .f64 b] w fun e w' => IsTrue w e w' := by
  obtain ⟨accv, g, off, mult, mn, mx, ra, part, x, o1, o2, o3, o4, o5, o6, o7, o8, -, tells⟩ := ok
  obtain ⟨a1, a2⟩ := fits_bits la ha ha0
  obtain ⟨b1, b2⟩ := fits_bits lb hb hb0
  rcases Nat.le_total a b with hab | hab
  · obtain ⟨t1, t2, i, j, ei, ej, hij, bi, bj⟩ := tells a b a1 hab b2
    obtain ⟨t0, s0, u0, e0, T0⟩ := toldOk_of t1 ei bi (by omega)
    obtain ⟨t1', s1, u1, e1, T1⟩ := toldOk_of t2 ej (by omega) bj
    refine fnMap_in K p accv g off mult mn mx ra part x a b s0 u0 s1 u1 t0 t1' w hk hk2 hp hp2 o1 o2 o3 o4 o5 o6 o7 o8 ha hb ha0 hb0 T0 T1 (fun _ => by omega) (fun h => ?_)
    rw [fge_bits a1 a2 b1 b2, decide_eq_true_eq] at h
    have : a = b := by omega
    subst this
    rw [ei] at ej
    cases ej
    omega
  · obtain ⟨t1, t2, i, j, ei, ej, hij, bi, bj⟩ := tells b a b1 hab a2
    obtain ⟨t0, s0, u0, e0, T0⟩ := toldOk_of t2 ej (by omega) bj
    obtain ⟨t1', s1, u1, e1, T1⟩ := toldOk_of t1 ei bi (by omega)
    refine fnMap_in K p accv g off mult mn mx ra part x a b s0 u0 s1 u1 t0 t1' w hk hk2 hp hp2 o1 o2 o3 o4 o5 o6 o7 o8 ha hb ha0 hb0 T0 T1 (fun h => ?_) (fun _ => by omega)
    rw [fle_bits a1 a2 b1 b2, decide_eq_true_eq] at h
    have : a = b := by omega
    subst this
    rw [ei] at ej
    cases ej
    omega
end Go.Proofs.Ytgommnmmifgbgaa
end
