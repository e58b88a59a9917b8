/-
  A dense store merged into a dense store. (Printed by gen_merged.py.)
-/
import Derived.Test.YtnmbjalojgccmaaGreatMF
section
namespace Go.Proofs.YtnmbjalojgccmaaGreat
open Go.RowKit

def MDRel (f fo : Int → Nat) (off omn omx : Int) (g L cp : Nat) (w wr : World) (i : Value) : Prop :=
  ∃ x : Int, i = .int .i64 x ∧ omn ≤ x ∧ x ≤ omx + 1 ∧ Row wr g L cp (fun j => if off + j < x then f (off + j) + fo (off + j) else f (off + j)) ∧ Fr (fun b => b = g) w wr

/-- Behind the merge of two dense stores. -/
def MergedD (F : Int → Nat) (N : Nat) (na nb : Int) (p : Nat) (g : Option Nat) (T : TypeId) (w : World) (e : Ending) (w' : World) : Prop :=
  ∃ g' L cp, e = .returned (.tuple #[]) ∧ DenseOk F (.float .f64 (nf N)) na nb p g' L cp [] T w' ∧ p ≠ g' ∧ L ≤ 50000 ∧ Fr (fun b => b = p ∨ g = some b) w w' ∧ (g = some g' ∨ w.heap.size ≤ g')

set_option maxRecDepth 100000 in
set_option maxHeartbeats 2000000 in
theorem mergeD_core (f fo : Int → Nat) (n no : Nat) (mn mx na nb omn omx : Int) (p r go Lo cpo : Nat) (g : Option Nat) (w : World) (d3 : w.cell? ⟨p, 3, none⟩ = some (.int .i64 mn)) (d4 : w.cell? ⟨p, 4, none⟩ = some (.int .i64 mx)) (hp : p < w.heap.size)
   (hX : ∀ w2, Fr (fun _ => False) w w2 → Calls Tryz.prog 220 #[.pointer (some ⟨p, 0, none⟩), .int .i64 omn, .int .i64 omx] w2 fun e w' => Extended f (.float .f64 (nf n)) na nb p g [] 171 w2 e w')
   (hI : mn ≤ omn → omx ≤ mx → ∀ w2, Fr (fun _ => False) w w2 → Extended f (.float .f64 (nf n)) na nb p g [] 171 w2 (.returned (.tuple #[])) w2)
   (hna : na ≤ omn) (hnb : omx ≤ nb) (hle : omn ≤ omx) (hlo : -10000 ≤ omn) (hhi : omx ≤ 10000)
   (hdo : DenseOk fo (.float .f64 (nf no)) omn omx r go Lo cpo [] 171 w) (hz : ∀ i, i < omn ∨ omx < i → fo i = 0) (hno : 0 < no) (hsn : n + no < 9007199254740992) (hsm : ∀ i, f i + fo i < 9007199254740992)
   (hrp : r ≠ p) (hrg : g ≠ some r) (hgp : go ≠ p) (hgg : g ≠ some go) (hgl : ∀ x, g = some x → x < w.heap.size) :
    Calls Tryz.prog 208 #[.pointer (some ⟨p, 0, none⟩), .iface 130 (.pointer (some ⟨r, 0, none⟩))] w fun e w' => MergedD (fun i => f i + fo i) (n + no) na nb p g 171 w e w' := by
  have hmf : ∀ (fn : Fn) (first cap : Array Value) (w : World), (Instr.makeFunc fn first cap).run Tryz.prog w = .ok (.func fn first cap) w := fun _ _ _ _ => rfl
  have hta := fun w => run_assert_same (P := Tryz.prog) 130 70 171 (.pointer (some ⟨r, 0, none⟩)) Tryz.underlying130 w
  obtain ⟨w1, hw1⟩ : ∃ w1, w1 = w.alloc (.cells #[.pointer (some ⟨p, 0, none⟩)] 130) := ⟨_, rfl⟩
  have hf01 : Fr (fun _ => False) w w1 := by rw [hw1]; exact (Fr.refl _ w).alloc _
  have hs1 : w1.heap.size = w.heap.size + 1 := by rw [hw1]; simp
  have hbx : w1.heap[w.heap.size]? = some (.cells #[.pointer (some ⟨p, 0, none⟩)] 130 (0, 0)) := by rw [hw1]; exact heap_alloc_new w _
  have hdo1 := hdo.fr hf01 (fun h => h) (fun h => h)
  obtain ⟨offo, hdo2, hro2, q1, q2, q3, q4⟩ := hdo1
  obtain ⟨off0, hdw, hrw, -⟩ := hdo
  have hrlt := hdw.lt
  have hglt := hrw.lt
  clear hdw hrw
  obtain ⟨r0, r1, r2, r3, r4⟩ := hdo2.cells
  have HEM : Calls Tryz.prog 205 #[.pointer (some ⟨r, 0, none⟩)] (w.alloc (.cells #[.pointer (some ⟨p, 0, none⟩)] 130)) fun e w' => e = .returned (.bool false) ∧ w' = w1 := by
    rw [← hw1]
    refine (isEmptyD_any r no (by omega) w1 r1).mono ?_
    rintro e w' ⟨rfl, rfl⟩
    exact ⟨by rw [show (no == 0) = false from by simp; omega], rfl⟩
  have e3 := hf01.cell d3 (fun h => h)
  have e4 := hf01.cell d4 (fun h => h)
  have bx0 := cell_of_one hbx
  have hM : ∀ w, (method 405 130 (.pointer (some ⟨r, 0, none⟩)) "IsEmpty").run Tryz.prog w = .ok (205, .pointer (some ⟨r, 0, none⟩)) w := toldD.mEmp r
  have hE : ∀ args w, (callFunc 205 args).run Tryz.prog w = .ok (.enter 205 args) w := toldD.eEmp
  have HDO1 := Lib.hid hdo2
  have HRO1 := Lib.hid hro2
  have HBX1 := Lib.hid hbx
  have HX := Lib.hid hX
  have HI := Lib.hid hI
  have HF01 := Lib.hid hf01
  have HW1 := Lib.hid hw1
  have HS1 := Lib.hid hs1
  have HZO := Lib.hid hz
  have HSM := Lib.hid hsm
  have HSN := Lib.hid hsn
  have HGP := Lib.hid hgp
  have HRP := Lib.hid hrp
  have HRG0 := Lib.hid hrg
  have HGG0 := Lib.hid hgg
  have HGL := Lib.hid hgl
  clear hX hI hdo2 hro2 hbx hw1 hf01 d3 d4 r0 r1 r2 hz hsm hsn hgp hrp hrg hgg hgl hs1
  by_cases k1 : omn < mn
  · have g1 : decide (omn < mn) = true := by simpa using k1
    go_enter Tryz.func208, Tryz.ntmps208
    go_wp2_with (go_at_fn 205; (with_reducible refine HEM.mono ?_); rintro e w2 ⟨rfl, rfl⟩; clear HEM hM hE)
    go_quiet (fail)
    obtain ⟨w5, hw5⟩ : ∃ w5, w5 = w2.drewN nq := ⟨_, rfl⟩
    have HF12 := Lib.hid (show Fr (fun _ => False) w2 w5.drew by rw [hw5]; exact ((Fr.refl _ w2).drewN nq).drew)
    have HX2 := HX.out _ (HF01.out.trans HF12.out (fun _ _ h => h) (fun _ _ h => h.elim))
    have s3 : w5.cell? ⟨r, 3, none⟩ = some (.int .i64 omn) := by rw [hw5]; exact r3
    have s4 : w5.cell? ⟨r, 4, none⟩ = some (.int .i64 omx) := by rw [hw5]; exact r4
    have sx : w5.cell? ⟨w.heap.size, 0, none⟩ = some (.pointer (some ⟨p, 0, none⟩)) := by rw [hw5]; exact bx0
    rw [← hw5]
    clear hw5 r3 r4 bx0 e3 e4
    go_wp2
    go_still_tail 9, (by kernel_rfl)
    show wpList _ _ _ _ _ w5.drew
    go_wp2_with fail
    refine HX2.mono ?_
    intro e w3 hx
    have HE2 := Lib.hid hx
    obtain ⟨_, _, _, rfl, -⟩ := hx
    clear HX2 s3 s4 sx
    obtain ⟨g', L, cp, -, ⟨off, hd2, hr2, b1, b2, b3, b4⟩, hpg, hll, hf2, hg⟩ := HE2.out
    have hs2 := HF12.out.size
    have hs3 := hf2.size
    have hs1 := HS1.out
    have hgl := HGL.out
    have hf02 : Fr (fun b => b = p ∨ g = some b) w w3 := (HF01.out.trans HF12.out (fun _ _ h => h) (fun _ _ h => h.elim)).trans hf2 (fun _ _ h => h.elim) (fun _ _ h => h)
    have hnew : ∀ b, b < w2.heap.size → ¬ (g = some b) → b ≠ g' := fun b hb h h2 => by
      rcases hg with h3 | h3
      · exact h (by rw [h2]; exact h3)
      · omega
    have hrg := hnew r (by omega) HRG0.out
    have hgg := hnew go (by omega) HGG0.out
    have hbg := hnew w.heap.size (by omega) (fun h => by have := hgl _ h; omega)
    have hf13 : Fr (fun b => b = p ∨ g = some b) w2 w3 := HF12.out.trans hf2 (fun _ _ h => h.elim) (fun _ _ h => h)
    have hdo3 := HDO1.out.fr hf13 (fun h => h.elim HRP.out HRG0.out)
    have hro3 := HRO1.out.fr hf13 (fun h => h.elim HGP.out HGG0.out)
    have hbx3 := hf13.heap HBX1.out (fun h => h.elim (fun h => by omega) (fun h => by have := hgl _ h; omega))
    have HD2 := Lib.hid hd2
    have HR2 := Lib.hid hr2
    have HDO := Lib.hid hdo3
    have HRO := Lib.hid hro3
    have HBX2 := Lib.hid hbx3
    have HPG := Lib.hid hpg
    have HRG := Lib.hid hrg
    have HGG := Lib.hid hgg
    have HBG := Lib.hid hbg
    have HF2 := Lib.hid hf02
    have HG := Lib.hid (show g = some g' ∨ w.heap.size ≤ g' from hg.imp id (fun h => by omega))
    have HB1 := Lib.hid (And.intro b1 (And.intro b2 (And.intro b3 b4)))
    have HLL := Lib.hid hll
    clear HE2 hf2 hf02 hf13 hdo3 hro3 hbx3 hnew hd2 hr2 hpg hrg hgg hbg hg hll hgl hs1 hs2 hs3 HX HI HF12
    obtain ⟨d0, d1, d2, d3, d4⟩ := HD2.out.cells
    obtain ⟨r0, r1, r2, r3, r4⟩ := HDO.out.cells
    have bx0 := cell_of_one HBX2.out
    go_wp2
    clear d0 d1 d2 d3 d4 r0 r1 r2 r3 r4 bx0
    go_loopw [6] (fun i wr => MDRel f fo off omn omx g' L cp w3 wr i) (fun i _ => (omx + 1 - intOf i).toNat)
    case atStart => exact ⟨omn, rfl, Int.le_refl _, by omega, HR2.out.ext (fun j _ => by
        by_cases c : off + (j : Int) < omn
        · rw [if_pos c, HZO.out _ (.inl c), Nat.add_zero]
        · rw [if_neg c]), Fr.refl _ _⟩
    case round =>
      obtain ⟨x, rfl, hx1, hx2, hrow, hfr⟩ := hrel
      obtain ⟨d0, d1, d2, d3, d4⟩ := (HD2.out.fr hfr HPG.out).cells
      obtain ⟨r0, r1, r2, r3, r4⟩ := (HDO.out.fr hfr (fun h => HRG.out h)).cells
      have bx0 := cell_of_one (hfr.heap HBX2.out (fun h => HBG.out h))
      by_cases hlt : x ≤ omx
      · obtain ⟨j, hj⟩ : ∃ j : Nat, x - off = (j : Int) := ⟨(x - off).toNat, by omega⟩
        obtain ⟨k, hk⟩ : ∃ k : Nat, x - offo = (k : Int) := ⟨(x - offo).toNat, by omega⟩
        have hjL : j < L := by omega
        have hjL' : (j : Int) < (L : Int) := by omega
        have hkL : k < Lo := by omega
        have hkL' : (k : Int) < (Lo : Int) := by omega
        have hcell := hrow.cell j hjL
        have hfree := hrow.free j
        have hox : off + (j : Int) = x := by omega
        rw [hox, if_neg (by omega)] at hcell
        have hoc := (HRO.out.fr hfr (fun h => HGG.out h)).cell k hkL
        rw [show offo + (k : Int) = x from by omega] at hoc
        have hadd := fun w : World => run_float_arith (P := Tryz.prog) w .add 30 .f64 _ _ _ (nf_add (f x) (fo x) (HSM.out x))
        have i1 : IntKind.i64.wrap (x - off) = (j : Int) := by rw [IntKind.wrap_i64]; omega
        have i2 : IntKind.i64.wrap (x - offo) = (k : Int) := by rw [IntKind.wrap_i64]; omega
        have i3 : IntKind.i64.wrap (x + 1) = x + 1 := by rw [IntKind.wrap_i64]; omega
        obtain ⟨u, hu⟩ : ∃ u, u = nf (f x) := ⟨_, rfl⟩
        obtain ⟨v, hv⟩ : ∃ v, v = nf (fo x) := ⟨_, rfl⟩
        obtain ⟨y, hy⟩ : ∃ y, y = nf (f x + fo x) := ⟨_, rfl⟩
        rw [← hu] at hcell hadd
        rw [← hv] at hoc hadd
        rw [← hy] at hadd
        have HY := Lib.hid hy
        have HO := Lib.hid hrow
        have HFR := Lib.hid hfr
        have HX := Lib.hid hox
        clear hrow hfr hox hu hv hy hj hk
        go_wp2
        go_still_tail 26, (by kernel_rfl)
        show wpList _ _ _ _ _ wr.drew
        go_wp2
        go_roundw
        case rel =>
          have hset := HO.out.drew.set j (f x + fo x) hjL
          rw [← HY.out] at hset
          refine ⟨x + 1, by go_num, by omega, by omega, hset.ext (fun i hi => ?_), HFR.out.drew.setCell (p := ⟨g', j, none⟩) (fun _ => rfl) _⟩
          have hox := HX.out
          by_cases hij : (i : Int) = (j : Int)
          · rw [if_pos hij, if_pos (by omega), show off + (i : Int) = x from by omega]
          · rw [if_neg hij]
            by_cases hi2 : off + (i : Int) < x
            · rw [if_pos hi2, if_pos (by omega)]
            · rw [if_neg hi2, if_neg (by omega)]
        case measure => simp [intOf]; omega
      · have hadd := fun w : World => run_float_arith (P := Tryz.prog) w .add 30 .f64 _ _ _ (nf_add n no HSN.out)
        have f1 := (HD2.out.fr hfr HPG.out).free 1
        obtain ⟨c1, hc1⟩ : ∃ c1, c1 = nf n := ⟨_, rfl⟩
        obtain ⟨c2, hc2⟩ : ∃ c2, c2 = nf no := ⟨_, rfl⟩
        obtain ⟨c3, hc3⟩ : ∃ c3, c3 = nf (n + no) := ⟨_, rfl⟩
        rw [← hc1] at d1 hadd
        rw [← hc2] at r1 hadd
        rw [← hc3] at hadd
        have HC3 := Lib.hid hc3
        have HO := Lib.hid hrow
        have HFR := Lib.hid hfr
        clear hrow hfr hc1 hc2 hc3
        go_wp2
        go_still_tail 11, (by kernel_rfl)
        show wpList _ _ _ _ _ wr.drew
        go_wp2
        go_end0
        have hd9 := ((HD2.out.fr HFR.out HPG.out).drew).set1 (.float .f64 c3)
        have hr9 : Row (wr.drew.setCell ⟨p, 1, none⟩ (.float .f64 c3)) g' L cp (fun j => f (off + j) + fo (off + j)) := (HO.out.drew.other (p := ⟨p, 1, none⟩) HPG.out _).ext (fun i hi => by
          by_cases hi2 : off + (i : Int) < x
          · rw [if_pos hi2]
          · rw [if_neg hi2, HZO.out _ (.inr (by omega)), Nat.add_zero])
        rw [HC3.out] at hd9 hr9
        refine ⟨g', L, cp, rfl, ⟨off, by rw [HC3.out]; exact hd9, by rw [HC3.out]; exact hr9, HB1.out.1, HB1.out.2.1, HB1.out.2.2.1, HB1.out.2.2.2⟩, HPG.out, HLL.out, ?_, HG.out⟩
        refine ((HF2.out.trans HFR.out.drew (fun _ _ h => h) (fun i hi h => ?_))).setCell (p := ⟨p, 1, none⟩) (fun _ => .inl rfl) _
        rcases HG.out with h2 | h2
        · right; rw [h2, h]
        · omega
  · have g1 : decide (omn < mn) = false := by simpa using k1
    by_cases k2 : mx < omx
    · have g2 : decide (mx < omx) = true := by simpa using k2
      go_enter Tryz.func208, Tryz.ntmps208
      go_wp2_with (go_at_fn 205; (with_reducible refine HEM.mono ?_); rintro e w2 ⟨rfl, rfl⟩; clear HEM hM hE)
      go_quiet (fail)
      obtain ⟨w5, hw5⟩ : ∃ w5, w5 = w2.drewN nq := ⟨_, rfl⟩
      have HF12 := Lib.hid (show Fr (fun _ => False) w2 w5.drew by rw [hw5]; exact ((Fr.refl _ w2).drewN nq).drew)
      have HX2 := HX.out _ (HF01.out.trans HF12.out (fun _ _ h => h) (fun _ _ h => h.elim))
      have s3 : w5.cell? ⟨r, 3, none⟩ = some (.int .i64 omn) := by rw [hw5]; exact r3
      have s4 : w5.cell? ⟨r, 4, none⟩ = some (.int .i64 omx) := by rw [hw5]; exact r4
      have sx : w5.cell? ⟨w.heap.size, 0, none⟩ = some (.pointer (some ⟨p, 0, none⟩)) := by rw [hw5]; exact bx0
      rw [← hw5]
      clear hw5 r3 r4 bx0 e3 e4
      go_wp2
      go_still_tail 9, (by kernel_rfl)
      show wpList _ _ _ _ _ w5.drew
      go_wp2_with fail
      refine HX2.mono ?_
      intro e w3 hx
      have HE2 := Lib.hid hx
      obtain ⟨_, _, _, rfl, -⟩ := hx
      clear HX2 s3 s4 sx
      obtain ⟨g', L, cp, -, ⟨off, hd2, hr2, b1, b2, b3, b4⟩, hpg, hll, hf2, hg⟩ := HE2.out
      have hs2 := HF12.out.size
      have hs3 := hf2.size
      have hs1 := HS1.out
      have hgl := HGL.out
      have hf02 : Fr (fun b => b = p ∨ g = some b) w w3 := (HF01.out.trans HF12.out (fun _ _ h => h) (fun _ _ h => h.elim)).trans hf2 (fun _ _ h => h.elim) (fun _ _ h => h)
      have hnew : ∀ b, b < w2.heap.size → ¬ (g = some b) → b ≠ g' := fun b hb h h2 => by
        rcases hg with h3 | h3
        · exact h (by rw [h2]; exact h3)
        · omega
      have hrg := hnew r (by omega) HRG0.out
      have hgg := hnew go (by omega) HGG0.out
      have hbg := hnew w.heap.size (by omega) (fun h => by have := hgl _ h; omega)
      have hf13 : Fr (fun b => b = p ∨ g = some b) w2 w3 := HF12.out.trans hf2 (fun _ _ h => h.elim) (fun _ _ h => h)
      have hdo3 := HDO1.out.fr hf13 (fun h => h.elim HRP.out HRG0.out)
      have hro3 := HRO1.out.fr hf13 (fun h => h.elim HGP.out HGG0.out)
      have hbx3 := hf13.heap HBX1.out (fun h => h.elim (fun h => by omega) (fun h => by have := hgl _ h; omega))
      have HD2 := Lib.hid hd2
      have HR2 := Lib.hid hr2
      have HDO := Lib.hid hdo3
      have HRO := Lib.hid hro3
      have HBX2 := Lib.hid hbx3
      have HPG := Lib.hid hpg
      have HRG := Lib.hid hrg
      have HGG := Lib.hid hgg
      have HBG := Lib.hid hbg
      have HF2 := Lib.hid hf02
      have HG := Lib.hid (show g = some g' ∨ w.heap.size ≤ g' from hg.imp id (fun h => by omega))
      have HB1 := Lib.hid (And.intro b1 (And.intro b2 (And.intro b3 b4)))
      have HLL := Lib.hid hll
      clear HE2 hf2 hf02 hf13 hdo3 hro3 hbx3 hnew hd2 hr2 hpg hrg hgg hbg hg hll hgl hs1 hs2 hs3 HX HI HF12
      obtain ⟨d0, d1, d2, d3, d4⟩ := HD2.out.cells
      obtain ⟨r0, r1, r2, r3, r4⟩ := HDO.out.cells
      have bx0 := cell_of_one HBX2.out
      go_wp2
      clear d0 d1 d2 d3 d4 r0 r1 r2 r3 r4 bx0
      go_loopw [6] (fun i wr => MDRel f fo off omn omx g' L cp w3 wr i) (fun i _ => (omx + 1 - intOf i).toNat)
      case atStart => exact ⟨omn, rfl, Int.le_refl _, by omega, HR2.out.ext (fun j _ => by
          by_cases c : off + (j : Int) < omn
          · rw [if_pos c, HZO.out _ (.inl c), Nat.add_zero]
          · rw [if_neg c]), Fr.refl _ _⟩
      case round =>
        obtain ⟨x, rfl, hx1, hx2, hrow, hfr⟩ := hrel
        obtain ⟨d0, d1, d2, d3, d4⟩ := (HD2.out.fr hfr HPG.out).cells
        obtain ⟨r0, r1, r2, r3, r4⟩ := (HDO.out.fr hfr (fun h => HRG.out h)).cells
        have bx0 := cell_of_one (hfr.heap HBX2.out (fun h => HBG.out h))
        by_cases hlt : x ≤ omx
        · obtain ⟨j, hj⟩ : ∃ j : Nat, x - off = (j : Int) := ⟨(x - off).toNat, by omega⟩
          obtain ⟨k, hk⟩ : ∃ k : Nat, x - offo = (k : Int) := ⟨(x - offo).toNat, by omega⟩
          have hjL : j < L := by omega
          have hjL' : (j : Int) < (L : Int) := by omega
          have hkL : k < Lo := by omega
          have hkL' : (k : Int) < (Lo : Int) := by omega
          have hcell := hrow.cell j hjL
          have hfree := hrow.free j
          have hox : off + (j : Int) = x := by omega
          rw [hox, if_neg (by omega)] at hcell
          have hoc := (HRO.out.fr hfr (fun h => HGG.out h)).cell k hkL
          rw [show offo + (k : Int) = x from by omega] at hoc
          have hadd := fun w : World => run_float_arith (P := Tryz.prog) w .add 30 .f64 _ _ _ (nf_add (f x) (fo x) (HSM.out x))
          have i1 : IntKind.i64.wrap (x - off) = (j : Int) := by rw [IntKind.wrap_i64]; omega
          have i2 : IntKind.i64.wrap (x - offo) = (k : Int) := by rw [IntKind.wrap_i64]; omega
          have i3 : IntKind.i64.wrap (x + 1) = x + 1 := by rw [IntKind.wrap_i64]; omega
          obtain ⟨u, hu⟩ : ∃ u, u = nf (f x) := ⟨_, rfl⟩
          obtain ⟨v, hv⟩ : ∃ v, v = nf (fo x) := ⟨_, rfl⟩
          obtain ⟨y, hy⟩ : ∃ y, y = nf (f x + fo x) := ⟨_, rfl⟩
          rw [← hu] at hcell hadd
          rw [← hv] at hoc hadd
          rw [← hy] at hadd
          have HY := Lib.hid hy
          have HO := Lib.hid hrow
          have HFR := Lib.hid hfr
          have HX := Lib.hid hox
          clear hrow hfr hox hu hv hy hj hk
          go_wp2
          go_still_tail 26, (by kernel_rfl)
          show wpList _ _ _ _ _ wr.drew
          go_wp2
          go_roundw
          case rel =>
            have hset := HO.out.drew.set j (f x + fo x) hjL
            rw [← HY.out] at hset
            refine ⟨x + 1, by go_num, by omega, by omega, hset.ext (fun i hi => ?_), HFR.out.drew.setCell (p := ⟨g', j, none⟩) (fun _ => rfl) _⟩
            have hox := HX.out
            by_cases hij : (i : Int) = (j : Int)
            · rw [if_pos hij, if_pos (by omega), show off + (i : Int) = x from by omega]
            · rw [if_neg hij]
              by_cases hi2 : off + (i : Int) < x
              · rw [if_pos hi2, if_pos (by omega)]
              · rw [if_neg hi2, if_neg (by omega)]
          case measure => simp [intOf]; omega
        · have hadd := fun w : World => run_float_arith (P := Tryz.prog) w .add 30 .f64 _ _ _ (nf_add n no HSN.out)
          have f1 := (HD2.out.fr hfr HPG.out).free 1
          obtain ⟨c1, hc1⟩ : ∃ c1, c1 = nf n := ⟨_, rfl⟩
          obtain ⟨c2, hc2⟩ : ∃ c2, c2 = nf no := ⟨_, rfl⟩
          obtain ⟨c3, hc3⟩ : ∃ c3, c3 = nf (n + no) := ⟨_, rfl⟩
          rw [← hc1] at d1 hadd
          rw [← hc2] at r1 hadd
          rw [← hc3] at hadd
          have HC3 := Lib.hid hc3
          have HO := Lib.hid hrow
          have HFR := Lib.hid hfr
          clear hrow hfr hc1 hc2 hc3
          go_wp2
          go_still_tail 11, (by kernel_rfl)
          show wpList _ _ _ _ _ wr.drew
          go_wp2
          go_end0
          have hd9 := ((HD2.out.fr HFR.out HPG.out).drew).set1 (.float .f64 c3)
          have hr9 : Row (wr.drew.setCell ⟨p, 1, none⟩ (.float .f64 c3)) g' L cp (fun j => f (off + j) + fo (off + j)) := (HO.out.drew.other (p := ⟨p, 1, none⟩) HPG.out _).ext (fun i hi => by
            by_cases hi2 : off + (i : Int) < x
            · rw [if_pos hi2]
            · rw [if_neg hi2, HZO.out _ (.inr (by omega)), Nat.add_zero])
          rw [HC3.out] at hd9 hr9
          refine ⟨g', L, cp, rfl, ⟨off, by rw [HC3.out]; exact hd9, by rw [HC3.out]; exact hr9, HB1.out.1, HB1.out.2.1, HB1.out.2.2.1, HB1.out.2.2.2⟩, HPG.out, HLL.out, ?_, HG.out⟩
          refine ((HF2.out.trans HFR.out.drew (fun _ _ h => h) (fun i hi h => ?_))).setCell (p := ⟨p, 1, none⟩) (fun _ => .inl rfl) _
          rcases HG.out with h2 | h2
          · right; rw [h2, h]
          · omega
    · have g2 : decide (mx < omx) = false := by simpa using k2
      go_enter Tryz.func208, Tryz.ntmps208
      go_wp2_with (go_at_fn 205; (with_reducible refine HEM.mono ?_); rintro e w2 ⟨rfl, rfl⟩; clear HEM hM hE)
      go_quiet (fail)
      obtain ⟨w3, hw3⟩ : ∃ w3, w3 = w2.drewN nq := ⟨_, rfl⟩
      have HF12 := Lib.hid (show Fr (fun _ => False) w2 w3 by rw [hw3]; exact (Fr.refl _ w2).drewN nq)
      have HE2 := Lib.hid (HI.out (by omega) (by omega) w3 (HF01.out.trans HF12.out (fun _ _ h => h) (fun _ _ h => h.elim)))
      rw [← hw3]
      clear hw3 e3 e4 bx0 r3 r4
      obtain ⟨g', L, cp, -, ⟨off, hd2, hr2, b1, b2, b3, b4⟩, hpg, hll, hf2, hg⟩ := HE2.out
      have hs2 := HF12.out.size
      have hs3 := hf2.size
      have hs1 := HS1.out
      have hgl := HGL.out
      have hf02 : Fr (fun b => b = p ∨ g = some b) w w3 := (HF01.out.trans HF12.out (fun _ _ h => h) (fun _ _ h => h.elim)).trans hf2 (fun _ _ h => h.elim) (fun _ _ h => h)
      have hnew : ∀ b, b < w2.heap.size → ¬ (g = some b) → b ≠ g' := fun b hb h h2 => by
        rcases hg with h3 | h3
        · exact h (by rw [h2]; exact h3)
        · omega
      have hrg := hnew r (by omega) HRG0.out
      have hgg := hnew go (by omega) HGG0.out
      have hbg := hnew w.heap.size (by omega) (fun h => by have := hgl _ h; omega)
      have hf13 : Fr (fun b => b = p ∨ g = some b) w2 w3 := HF12.out.trans hf2 (fun _ _ h => h.elim) (fun _ _ h => h)
      have hdo3 := HDO1.out.fr hf13 (fun h => h.elim HRP.out HRG0.out)
      have hro3 := HRO1.out.fr hf13 (fun h => h.elim HGP.out HGG0.out)
      have hbx3 := hf13.heap HBX1.out (fun h => h.elim (fun h => by omega) (fun h => by have := hgl _ h; omega))
      have HD2 := Lib.hid hd2
      have HR2 := Lib.hid hr2
      have HDO := Lib.hid hdo3
      have HRO := Lib.hid hro3
      have HBX2 := Lib.hid hbx3
      have HPG := Lib.hid hpg
      have HRG := Lib.hid hrg
      have HGG := Lib.hid hgg
      have HBG := Lib.hid hbg
      have HF2 := Lib.hid hf02
      have HG := Lib.hid (show g = some g' ∨ w.heap.size ≤ g' from hg.imp id (fun h => by omega))
      have HB1 := Lib.hid (And.intro b1 (And.intro b2 (And.intro b3 b4)))
      have HLL := Lib.hid hll
      clear HE2 hf2 hf02 hf13 hdo3 hro3 hbx3 hnew hd2 hr2 hpg hrg hgg hbg hg hll hgl hs1 hs2 hs3 HX HI HF12
      obtain ⟨d0, d1, d2, d3, d4⟩ := HD2.out.cells
      obtain ⟨r0, r1, r2, r3, r4⟩ := HDO.out.cells
      have bx0 := cell_of_one HBX2.out
      go_wp2
      clear d0 d1 d2 d3 d4 r0 r1 r2 r3 r4 bx0
      go_loopw [6] (fun i wr => MDRel f fo off omn omx g' L cp w3 wr i) (fun i _ => (omx + 1 - intOf i).toNat)
      case atStart => exact ⟨omn, rfl, Int.le_refl _, by omega, HR2.out.ext (fun j _ => by
          by_cases c : off + (j : Int) < omn
          · rw [if_pos c, HZO.out _ (.inl c), Nat.add_zero]
          · rw [if_neg c]), Fr.refl _ _⟩
      case round =>
        obtain ⟨x, rfl, hx1, hx2, hrow, hfr⟩ := hrel
        obtain ⟨d0, d1, d2, d3, d4⟩ := (HD2.out.fr hfr HPG.out).cells
        obtain ⟨r0, r1, r2, r3, r4⟩ := (HDO.out.fr hfr (fun h => HRG.out h)).cells
        have bx0 := cell_of_one (hfr.heap HBX2.out (fun h => HBG.out h))
        by_cases hlt : x ≤ omx
        · obtain ⟨j, hj⟩ : ∃ j : Nat, x - off = (j : Int) := ⟨(x - off).toNat, by omega⟩
          obtain ⟨k, hk⟩ : ∃ k : Nat, x - offo = (k : Int) := ⟨(x - offo).toNat, by omega⟩
          have hjL : j < L := by omega
          have hjL' : (j : Int) < (L : Int) := by omega
          have hkL : k < Lo := by omega
          have hkL' : (k : Int) < (Lo : Int) := by omega
          have hcell := hrow.cell j hjL
          have hfree := hrow.free j
          have hox : off + (j : Int) = x := by omega
          rw [hox, if_neg (by omega)] at hcell
          have hoc := (HRO.out.fr hfr (fun h => HGG.out h)).cell k hkL
          rw [show offo + (k : Int) = x from by omega] at hoc
          have hadd := fun w : World => run_float_arith (P := Tryz.prog) w .add 30 .f64 _ _ _ (nf_add (f x) (fo x) (HSM.out x))
          have i1 : IntKind.i64.wrap (x - off) = (j : Int) := by rw [IntKind.wrap_i64]; omega
          have i2 : IntKind.i64.wrap (x - offo) = (k : Int) := by rw [IntKind.wrap_i64]; omega
          have i3 : IntKind.i64.wrap (x + 1) = x + 1 := by rw [IntKind.wrap_i64]; omega
          obtain ⟨u, hu⟩ : ∃ u, u = nf (f x) := ⟨_, rfl⟩
          obtain ⟨v, hv⟩ : ∃ v, v = nf (fo x) := ⟨_, rfl⟩
          obtain ⟨y, hy⟩ : ∃ y, y = nf (f x + fo x) := ⟨_, rfl⟩
          rw [← hu] at hcell hadd
          rw [← hv] at hoc hadd
          rw [← hy] at hadd
          have HY := Lib.hid hy
          have HO := Lib.hid hrow
          have HFR := Lib.hid hfr
          have HX := Lib.hid hox
          clear hrow hfr hox hu hv hy hj hk
          go_wp2
          go_still_tail 26, (by kernel_rfl)
          show wpList _ _ _ _ _ wr.drew
          go_wp2
          go_roundw
          case rel =>
            have hset := HO.out.drew.set j (f x + fo x) hjL
            rw [← HY.out] at hset
            refine ⟨x + 1, by go_num, by omega, by omega, hset.ext (fun i hi => ?_), HFR.out.drew.setCell (p := ⟨g', j, none⟩) (fun _ => rfl) _⟩
            have hox := HX.out
            by_cases hij : (i : Int) = (j : Int)
            · rw [if_pos hij, if_pos (by omega), show off + (i : Int) = x from by omega]
            · rw [if_neg hij]
              by_cases hi2 : off + (i : Int) < x
              · rw [if_pos hi2, if_pos (by omega)]
              · rw [if_neg hi2, if_neg (by omega)]
          case measure => simp [intOf]; omega
        · have hadd := fun w : World => run_float_arith (P := Tryz.prog) w .add 30 .f64 _ _ _ (nf_add n no HSN.out)
          have f1 := (HD2.out.fr hfr HPG.out).free 1
          obtain ⟨c1, hc1⟩ : ∃ c1, c1 = nf n := ⟨_, rfl⟩
          obtain ⟨c2, hc2⟩ : ∃ c2, c2 = nf no := ⟨_, rfl⟩
          obtain ⟨c3, hc3⟩ : ∃ c3, c3 = nf (n + no) := ⟨_, rfl⟩
          rw [← hc1] at d1 hadd
          rw [← hc2] at r1 hadd
          rw [← hc3] at hadd
          have HC3 := Lib.hid hc3
          have HO := Lib.hid hrow
          have HFR := Lib.hid hfr
          clear hrow hfr hc1 hc2 hc3
          go_wp2
          go_still_tail 11, (by kernel_rfl)
          show wpList _ _ _ _ _ wr.drew
          go_wp2
          go_end0
          have hd9 := ((HD2.out.fr HFR.out HPG.out).drew).set1 (.float .f64 c3)
          have hr9 : Row (wr.drew.setCell ⟨p, 1, none⟩ (.float .f64 c3)) g' L cp (fun j => f (off + j) + fo (off + j)) := (HO.out.drew.other (p := ⟨p, 1, none⟩) HPG.out _).ext (fun i hi => by
            by_cases hi2 : off + (i : Int) < x
            · rw [if_pos hi2]
            · rw [if_neg hi2, HZO.out _ (.inr (by omega)), Nat.add_zero])
          rw [HC3.out] at hd9 hr9
          refine ⟨g', L, cp, rfl, ⟨off, by rw [HC3.out]; exact hd9, by rw [HC3.out]; exact hr9, HB1.out.1, HB1.out.2.1, HB1.out.2.2.1, HB1.out.2.2.2⟩, HPG.out, HLL.out, ?_, HG.out⟩
          refine ((HF2.out.trans HFR.out.drew (fun _ _ h => h) (fun i hi h => ?_))).setCell (p := ⟨p, 1, none⟩) (fun _ => .inl rfl) _
          rcases HG.out with h2 | h2
          · right; rw [h2, h]
          · omega
end Go.Proofs.YtnmbjalojgccmaaGreat
end
/-
  Of one kind: a dense store merged into a dense store.
-/
section
namespace Go.Proofs.YtnmbjalojgccmaaGreat
open Go.RowKit

theorem cntB_append (a b : Bins) (i : Int) : cntB (a ++ b) i = cntB a i + cntB b i := by
  induction a with
  | nil => show cntB b i = 0 + cntB b i; omega
  | cons q t ih =>
    show (if i = q.1 then cntB (t ++ b) i + q.2 else cntB (t ++ b) i) = (if i = q.1 then cntB t i + q.2 else cntB t i) + cntB b i
    rw [ih]
    split <;> omega
/-- The counts below x. -/
def upTo (f : Int → Nat) (x : Int) : Int → Nat := fun j => if j < x then f j else 0
theorem upTo_step (f : Int → Nat) (x : Int) : upTo f (x + 1) = addAt (upTo f x) x (f x) := by
  funext j
  show (if j < x + 1 then f j else 0) = if j = x then (if j < x then f j else 0) + f x else (if j < x then f j else 0)
  by_cases h : j = x
  · subst h; rw [if_pos (by omega), if_pos rfl, if_neg (by omega), Nat.zero_add]
  · rw [if_neg h]
    by_cases h2 : j < x
    · rw [if_pos h2, if_pos (by omega)]
    · rw [if_neg h2, if_neg (by omega)]
theorem upTo_none (f : Int → Nat) (x : Int) (hz : ∀ i, i < x → f i = 0) : upTo f x = fun _ => 0 := by
  funext j
  show (if j < x then f j else 0) = 0
  split
  · exact hz j ‹_›
  · rfl
theorem upTo_all (f : Int → Nat) (x : Int) (hz : ∀ i, x ≤ i → f i = 0) : upTo f x = f := by
  funext j
  show (if j < x then f j else 0) = f j
  split
  · rfl
  · rw [hz j (by omega)]
theorem upTo_hole (f : Int → Nat) (x y : Int) (hxy : x ≤ y) (hz : ∀ i, x ≤ i → i < y → f i = 0) : upTo f y = upTo f x := by
  funext j
  show (if j < y then f j else 0) = if j < x then f j else 0
  by_cases h : j < x
  · rw [if_pos h, if_pos (by omega)]
  · rw [if_neg h]
    split
    · exact hz j (by omega) ‹_›
    · rfl
theorem InR.append {a b : Bins} (ha : InR a) (hb : InR b) : InR (a ++ b) := fun q hq => (List.mem_append.1 hq).elim (ha q) (hb q)
theorem cnt_le_tot {a : Bins} (ha : InR a) (i : Int) : cntB a i ≤ tot a := by
  by_cases h : i < -10000 ∨ 10000 < i
  · rw [cntB_inR ha i h]; omega
  · rw [← tot2_cnt ha]; exact one_le_tot _ _ (by omega) (by omega)

theorem mergeDD_any (most om : Int) (xs ys : Bins) (S R : Nat → Prop) (p r : Nat) (w : World) (h : (kindD).St most xs S p w) (ho : (kindD).St om ys R r w) (hd : ∀ b, S b → ¬ R b) (hy : ys ≠ []) (hfo : Few 0 om ys) (hf : Fits2 0 most xs (keptB 0 om ys)) :
    Calls Tryz.prog 208 #[.pointer (some ⟨p, 0, none⟩), .iface 130 (.pointer (some ⟨r, 0, none⟩))] w fun e w' => MergedTo kindD kindD most om xs ys S R p r w e w' := by
  obtain ⟨ks, hks⟩ : ∃ ks, ks = keptB 0 om ys := ⟨_, rfl⟩
  have hkc : cntB ks = cntB ys := by rw [hks]; exact cnt_kept0 (by decide) (by decide) ys
  have hkt : tot ks = tot ys := by rw [hks]; exact kept_tot 0 om ys
  rw [← hks] at hf
  have htt := hf.tot
  have hxi := hf.inR
  have hyi := hfo.inR
  have hcc : ∀ i, cntB (xs ++ ks) i = cntB xs i + cntB ys i := fun i => by rw [cntB_append, hkc]
  have hta : tot (xs ++ ks) = tot xs + tot ys := by rw [tot_append, hkt]
  have hfun : cntB (xs ++ ks) = fun i => cntB xs i + cntB ys i := funext hcc
  have hR := (kindD).lt om ys R r w ho
  rcases ho with ⟨h1, _, _⟩ | ⟨omn, omx, go, Lo, cpo, g1, g2, g3, g4⟩
  · exact absurd h1 hy
  have hrR : R r := (g4 r).2 (.inl rfl)
  have hgR : R go := (g4 go).2 (.inr rfl)
  have hO : ∀ (w' : World) (U : Nat → Prop), Fr U w w' → (∀ b, R b → ¬ U b) → StD om ys R r w' := fun w' U hfr hn => (kindD).fr om ys R r U w w' (.inr ⟨omn, omx, go, Lo, cpo, g1, g2, g3, g4⟩) hfr (fun k hk => hn k hk)
  have gz := g1.zero
  rcases h with ⟨rfl, h2, h3⟩ | ⟨mn, mx, g, L, cp, h1, h2, h3, h4⟩
  · have hpS : S p := (h3 p).2 rfl
    have HH := mergeD_core (fun _ => 0) (cntB ys) 0 (tot ys) 2147483647 (-2147483648) omn omx omn omx p r go Lo cpo none w h2.cells.2.2.2.1 h2.cells.2.2.2.2 (DS.lt h2)
      (fun w2 hfr => by rw [nf_zero]; exact extendE_any omn omx p [] 171 w2 (DS.fr h2 hfr (fun h => h)) g1.le g1.lo g1.hi)
      (fun k1 _ => absurd k1 (by have := g1.hi; have := g1.le; omega)) (Int.le_refl _) (Int.le_refl _) g1.le g1.lo g1.hi g1.ok gz g1.pos (by omega) (fun i => by have := cnt_le_tot hyi i; omega)
      (fun h => hd p hpS (by rw [← h]; exact hrR)) (fun h => by cases h) (fun h => hd p hpS (by rw [← h]; exact hgR)) (fun h => by cases h) (fun x h => by cases h)
    refine HH.mono ?_
    rintro e w' ⟨g', L', cp', rfl, hok, hpg, hL, hfr, hg⟩
    have hg' : w.heap.size ≤ g' := hg.elim (fun h => by cases h) id
    have e0 : (fun i => 0 + cntB ys i) = cntB ([] ++ ks) := by rw [hfun]; rfl
    have hfS : Fr S w w' := hfr.mono (fun k _ hk => hk.elim (fun h => (h3 k).2 h) (fun h => by cases h))
    refine ⟨rfl, hO w' S hfS (fun b hb hs => hd b hs hb), fun k => k = p ∨ k = g', .inr ⟨omn, omx, g', L', cp', ⟨?_, hpg, fun i hi => ?_, g1.le, ?_, ?_, g1.lo, g1.hi, hL⟩, ?_, ?_, fun k => Iff.rfl⟩, hfS.mono (fun _ _ h => .inl h), fun k hk => ?_⟩
    · rw [← hks, hta, ← e0]; exact hok
    · rw [← hks, hcc, gz i hi]; rfl
    · rw [← hks, hta]; have := g1.pos; omega
    · rw [← hks, hta]; omega
    · rw [← hks, hcc]; omega
    · rw [← hks, hcc]; omega
    · rcases hk with hk | hk
      · exact .inl ((h3 k).2 hk)
      · right; omega
  · have hpS : S p := (h4 p).2 (.inl rfl)
    have hgS : S g := (h4 g).2 (.inr rfl)
    obtain ⟨off, hdd, hrw, o1, o2, o3, o4⟩ := id h1.ok
    have hle := h1.le
    have hgle := g1.le
    have l1 := h1.lo
    have l2 := h1.hi
    have l3 := g1.lo
    have l4 := g1.hi
    have h1f : ∀ w2, Fr (fun _ => False) w w2 → FullPre (cntB xs) (tot xs) mn mx p g L cp [] 171 w2 := fun w2 hfr => { h1 with ok := h1.ok.fr hfr (fun h => h) (fun h => h) }
    have HH := mergeD_core (cntB xs) (cntB ys) (tot xs) (tot ys) mn mx (min omn mn) (max omx mx) omn omx p r go Lo cpo (some g) w hdd.cells.2.2.2.1 hdd.cells.2.2.2.2 hdd.lt
      (fun w2 hfr => extendF_any (cntB xs) (tot xs) omn omx mn mx _ _ p g L cp [] 171 w2 (h1f w2 hfr) g1.lo g1.hi rfl rfl)
      (fun k1 k2 w2 hfr => ⟨g, L, cp, rfl, by rw [show min omn mn = mn from by omega, show max omx mx = mx from by omega]; exact (h1f w2 hfr).ok, h1.ne, h1.len, Fr.refl _ _, .inl rfl⟩) (by omega) (by omega) hgle l3 l4 g1.ok gz g1.pos (by omega) (fun i => by have := cnt_le_tot hyi i; have := cnt_le_tot hxi i; omega)
      (fun h => hd p hpS (by rw [← h]; exact hrR)) (fun h => hd g hgS (by rw [Option.some.inj h]; exact hrR)) (fun h => hd p hpS (by rw [← h]; exact hgR)) (fun h => hd g hgS (by rw [Option.some.inj h]; exact hgR)) (fun x h => by rw [← Option.some.inj h]; exact hrw.lt)
    refine HH.mono ?_
    rintro e w' ⟨g', L', cp', rfl, hok, hpg, hL, hfr, hg⟩
    have hfS : Fr S w w' := hfr.mono (fun k _ hk => hk.elim (fun h => (h4 k).2 (.inl h)) (fun h => (h4 k).2 (.inr (Option.some.inj h).symm)))
    refine ⟨rfl, hO w' S hfS (fun b hb hs => hd b hs hb), fun k => k = p ∨ k = g', .inr ⟨min omn mn, max omx mx, g', L', cp', ⟨?_, hpg, fun i hi => ?_, by omega, ?_, ?_, by omega, by omega, hL⟩, ?_, ?_, fun k => Iff.rfl⟩, hfS.mono (fun _ _ h => .inl h), fun k hk => ?_⟩
    · rw [← hks, hta, hfun]; exact hok
    · rw [← hks, hcc, gz i (by omega), h1.zero i (by omega)]
    · rw [← hks, hta]; have := g1.pos; omega
    · rw [← hks, hta]; omega
    · rw [← hks, hcc]
      by_cases hmn : omn ≤ mn
      · rw [show min omn mn = omn from by omega]; omega
      · rw [show min omn mn = mn from by omega]; omega
    · rw [← hks, hcc]
      by_cases hmx : mx ≤ omx
      · rw [show max omx mx = omx from by omega]; omega
      · rw [show max omx mx = mx from by omega]; omega
    · rcases hk with hk | hk
      · exact .inl ((h4 k).2 (.inl hk))
      · rcases hg with hg | hg
        · exact .inl ((h4 k).2 (.inr (by rw [hk]; exact (Option.some.inj hg).symm)))
        · right; omega
end Go.Proofs.YtnmbjalojgccmaaGreat
end
