/-
  A store that collapses its lowest bins merged into one of its kind. (Printed by gen_mergel.py.)
-/
import Derived.Test.YtnmbjalojgccmaaGreatMH
section
namespace Go.Proofs.YtnmbjalojgccmaaGreat
open Go.RowKit

/-- The row where the source's counts below x are in. -/
def accL (G f : Int → Nat) (s x : Int) : Int → Nat := fun i => G i + sqL (upTo f x) s i
theorem accL_step (G f : Int → Nat) (s x : Int) (h : -10000 ≤ x) (i : Int) : accL G f s (x + 1) i = if i = max x s then accL G f s x i + f x else accL G f s x i := by
  unfold accL
  rw [upTo_step, ← sqL_addAt _ _ _ _ h]
  show G i + (if i = max x s then sqL (upTo f x) s i + f x else sqL (upTo f x) s i) = _
  split <;> omega
theorem accL_zero (G f : Int → Nat) (s x : Int) (hz : ∀ i, i < x → f i = 0) : accL G f s x = G := by
  have h : upTo f x = fun _ => 0 := by
    funext j
    show (if j < x then f j else 0) = 0
    split
    · exact hz j ‹_›
    · rfl
  funext i
  unfold accL
  rw [h, sqL_none _ _ (fun _ _ => rfl) (fun _ _ => rfl), Nat.add_zero]
theorem accL_end (G f : Int → Nat) (s x : Int) (hz : ∀ i, x < i → f i = 0) : accL G f s (x + 1) = fun i => G i + sqL f s i := by
  have h : upTo f (x + 1) = f := by
    funext j
    show (if j < x + 1 then f j else 0) = f j
    split
    · rfl
    · rw [hz j (by omega)]
  unfold accL
  rw [h]

def ExtL (G : Int → Nat) (c : Value) (M : Nat) (s nb : Int) (p : Nat) (g : Option Nat) (rest : List Value) (T : TypeId) (w : World) (e : Ending) (w' : World) : Prop :=
  ∃ g' L cp, e = .returned (.tuple #[]) ∧ DenseOk G c s nb p g' L cp rest T w' ∧ p ≠ g' ∧ L ≤ M ∧ Fr (fun b => b = p ∨ g = some b) w w' ∧ (g = some g' ∨ w.heap.size ≤ g')

def MLRel (G fo : Int → Nat) (s off omn omx : Int) (g L cp : Nat) (w wr : World) (i : Value) : Prop :=
  ∃ x : Int, i = .int .i64 x ∧ omn ≤ x ∧ x ≤ omx + 1 ∧ Row wr g L cp (fun j => accL G fo s x (off + j)) ∧ Fr (fun b => b = g) w wr
def MLRel3 (G fo : Int → Nat) (s off y : Int) (g L cp : Nat) (w wr : World) (i : Value) : Prop :=
  i = .int .i64 y ∧ Row wr g L cp (fun j => accL G fo s y (off + j)) ∧ Fr (fun b => b = g) w wr
def MLRel2 (G fo : Int → Nat) (s off omn omx : Int) (g L cp : Nat) (w wr : World) (i : Value) : Prop :=
  ∃ x : Int, i = .int .i64 x ∧ omn ≤ x ∧ x ≤ omx + 1 ∧ (s ≤ x ∨ x = omx + 1) ∧ Row wr g L cp (fun j => accL G fo s x (off + j)) ∧ Fr (fun b => b = g) w wr

/-- Behind the merge. -/
def MergedL (F : Int → Nat) (N M : Nat) (s nb : Int) (p : Nat) (g : Option Nat) (rest : List Value) (T : TypeId) (w : World) (e : Ending) (w' : World) : Prop :=
  ∃ g' L cp, e = .returned (.tuple #[]) ∧ DenseOk F (.float .f64 (nf N)) s nb p g' L cp rest T w' ∧ p ≠ g' ∧ L ≤ M ∧ Fr (fun b => b = p ∨ g = some b) w w' ∧ (g = some g' ∨ w.heap.size ≤ g')

end Go.Proofs.YtnmbjalojgccmaaGreat
end
/-
  The merge of the collapsing stores, one more case. (Printed by gen_mergel.py.)
-/
section
namespace Go.Proofs.YtnmbjalojgccmaaGreat
open Go.RowKit

set_option maxRecDepth 100000 in
set_option maxHeartbeats 4000000 in
theorem mergeL_coreA (G fo : Int → Nat) (n no M : Nat) (mn mx s nb omn omx : Int) (p r go Lo cpo : Nat) (g : Option Nat) (rest resto : List Value) (w : World) (d3 : w.cell? ⟨p, 3, none⟩ = some (.int .i64 mn)) (d4 : w.cell? ⟨p, 4, none⟩ = some (.int .i64 mx)) (hp : p < w.heap.size)
   (hX : ∀ w2, Fr (fun _ => False) w w2 → Calls Tryz.prog 331 #[.pointer (some ⟨p, 0, none⟩), .int .i64 omn, .int .i64 omx] w2 fun e w' => ExtL G (.float .f64 (nf n)) M s nb p g rest 179 w2 e w')
   (hI : mn ≤ omn → omx ≤ mx → ∀ w2, Fr (fun _ => False) w w2 → ExtL G (.float .f64 (nf n)) M s nb p g rest 179 w2 (.returned (.tuple #[])) w2)
   (hoff : omn < s → s = nb - M + 1) (hsb : s ≤ nb) (hnb : omx ≤ nb) (hle : omn ≤ omx) (hlo : -10000 ≤ omn) (hhi : omx ≤ 10000) (hM5 : M ≤ 50000)
   (hdo : DenseOk fo (.float .f64 (nf no)) omn omx r go Lo cpo resto 179 w) (hz : (∀ i, i < omn → fo i = 0) ∧ ∀ i, omx < i → fo i = 0) (hno : 0 < no) (hsn : n + no < 9007199254740992) (hsm : ∀ x i, accL G fo s x i + fo x < 9007199254740992)
   (hrp : r ≠ p) (hrg : g ≠ some r) (hgp : go ≠ p) (hgg : g ≠ some go) (hgl : ∀ x, g = some x → x < w.heap.size) (k1 : omn < mn) :
    Calls Tryz.prog 328 #[.pointer (some ⟨p, 0, none⟩), .iface 136 (.pointer (some ⟨r, 0, none⟩))] w fun e w' => MergedL (fun i => G i + sqL fo s i) (n + no) M s nb p g rest 179 w e w' := by
  have hmf : ∀ (fn : Fn) (first cap : Array Value) (w : World), (Instr.makeFunc fn first cap).run Tryz.prog w = .ok (.func fn first cap) w := fun _ _ _ _ => rfl
  have hta := fun w => run_assert_same (P := Tryz.prog) 136 70 179 (.pointer (some ⟨r, 0, none⟩)) Tryz.underlying136 w
  obtain ⟨w1, hw1⟩ : ∃ w1, w1 = w.alloc (.cells #[.pointer (some ⟨p, 0, none⟩)] 136) := ⟨_, rfl⟩
  have hf01 : Fr (fun _ => False) w w1 := by rw [hw1]; exact (Fr.refl _ w).alloc _
  have hs1 : w1.heap.size = w.heap.size + 1 := by rw [hw1]; simp
  have hbx : w1.heap[w.heap.size]? = some (.cells #[.pointer (some ⟨p, 0, none⟩)] 136 (0, 0)) := by rw [hw1]; exact heap_alloc_new w _
  have hdo1 := hdo.fr hf01 (fun h => h) (fun h => h)
  obtain ⟨offo, hdo2, hro2, q1, q2, q3, q4⟩ := hdo1
  obtain ⟨off0, hdw, hrw, -⟩ := hdo
  have hrlt := hdw.lt
  have hglt := hrw.lt
  clear hdw hrw
  obtain ⟨r0, r1, r2, r3, r4⟩ := hdo2.cells
  have HEM : Calls Tryz.prog 205 #[.pointer (some ⟨r, 0, none⟩)] (w.alloc (.cells #[.pointer (some ⟨p, 0, none⟩)] 136)) fun e w' => e = .returned (.bool false) ∧ w' = w1 := by
    rw [← hw1]
    refine (isEmptyD_any r no (by omega) w1 r1).mono ?_
    rintro e w' ⟨rfl, rfl⟩
    exact ⟨by rw [show (no == 0) = false from by simp; omega], rfl⟩
  have e3 := hf01.cell d3 (fun h => h)
  have e4 := hf01.cell d4 (fun h => h)
  have bx0 := cell_of_one hbx
  have hM : ∀ w, (method 405 136 (.pointer (some ⟨r, 0, none⟩)) "IsEmpty").run Tryz.prog w = .ok (205, .pointer (some ⟨r, 0, none⟩)) w := toldL.mEmp r
  have hE : ∀ args w, (callFunc 205 args).run Tryz.prog w = .ok (.enter 205 args) w := toldL.eEmp
  have HDO1 := Lib.hid hdo2
  have HRO1 := Lib.hid hro2
  have HBX1 := Lib.hid hbx
  have HX := Lib.hid hX
  have HI := Lib.hid hI
  have HF01 := Lib.hid hf01
  have HW1 := Lib.hid hw1
  have HS1 := Lib.hid hs1
  have HZO := Lib.hid hz
  have HSM := Lib.hid hsm
  have HSN := Lib.hid hsn
  have HGP := Lib.hid hgp
  have HRP := Lib.hid hrp
  have HRG0 := Lib.hid hrg
  have HGG0 := Lib.hid hgg
  have HGL := Lib.hid hgl
  have HOFF := Lib.hid hoff
  clear hX hI hdo2 hro2 hbx hw1 hf01 d3 d4 r0 r1 r2 hz hsm hsn hgp hrp hrg hgg hgl hs1 hoff
  have g1 : decide (omn < mn) = true := by simpa using k1
  go_enter Tryz.func328, Tryz.ntmps328
  go_wp2_with (go_at_fn 205; (with_reducible refine HEM.mono ?_); rintro e w2 ⟨rfl, rfl⟩; clear HEM hM hE)
  go_quiet (fail)
  obtain ⟨w5, hw5⟩ : ∃ w5, w5 = w2.drewN nq := ⟨_, rfl⟩
  have HF12 := Lib.hid (show Fr (fun _ => False) w2 w5.drew by rw [hw5]; exact ((Fr.refl _ w2).drewN nq).drew)
  have HX2 := HX.out _ (HF01.out.trans HF12.out (fun _ _ h => h) (fun _ _ h => h.elim))
  have s3 : w5.cell? ⟨r, 3, none⟩ = some (.int .i64 omn) := by rw [hw5]; exact r3
  have s4 : w5.cell? ⟨r, 4, none⟩ = some (.int .i64 omx) := by rw [hw5]; exact r4
  have sx : w5.cell? ⟨w.heap.size, 0, none⟩ = some (.pointer (some ⟨p, 0, none⟩)) := by rw [hw5]; exact bx0
  rw [← hw5]
  clear hw5 r3 r4 bx0 e3 e4
  go_wp2
  go_still_tail 11, (by kernel_rfl)
  show wpList _ _ _ _ _ w5.drew
  go_wp2_with fail
  refine HX2.mono ?_
  intro e w3 hx
  have HE2 := Lib.hid hx
  obtain ⟨_, _, _, rfl, -⟩ := hx
  clear HX2 s3 s4 sx
  obtain ⟨g', L, cp, -, ⟨off, hd2, hr2, b1, b2, b3, b4⟩, hpg, hll, hf2, hg⟩ := HE2.out
  have hs2 := HF12.out.size
  have hs3 := hf2.size
  have hs1 := HS1.out
  have hgl := HGL.out
  have hf02 : Fr (fun b => b = p ∨ g = some b) w w3 := (HF01.out.trans HF12.out (fun _ _ h => h) (fun _ _ h => h.elim)).trans hf2 (fun _ _ h => h.elim) (fun _ _ h => h)
  have hnew : ∀ b, b < w2.heap.size → ¬ (g = some b) → b ≠ g' := fun b hb h h2 => by
    rcases hg with h3 | h3
    · exact h (by rw [h2]; exact h3)
    · omega
  have hrg := hnew r (by omega) HRG0.out
  have hgg := hnew go (by omega) HGG0.out
  have hbg := hnew w.heap.size (by omega) (fun h => by have := hgl _ h; omega)
  have hf13 : Fr (fun b => b = p ∨ g = some b) w2 w3 := HF12.out.trans hf2 (fun _ _ h => h.elim) (fun _ _ h => h)
  have hdo3 := HDO1.out.fr hf13 (fun h => h.elim HRP.out HRG0.out)
  have hro3 := HRO1.out.fr hf13 (fun h => h.elim HGP.out HGG0.out)
  have hbx3 := hf13.heap HBX1.out (fun h => h.elim (fun h => by omega) (fun h => by have := hgl _ h; omega))
  have HD2 := Lib.hid hd2
  have HR2 := Lib.hid hr2
  have HDO := Lib.hid hdo3
  have HRO := Lib.hid hro3
  have HBX2 := Lib.hid hbx3
  have HPG := Lib.hid hpg
  have HRG := Lib.hid hrg
  have HGG := Lib.hid hgg
  have HBG := Lib.hid hbg
  have HF2 := Lib.hid hf02
  have HG := Lib.hid (show g = some g' ∨ w.heap.size ≤ g' from hg.imp id (fun h => by omega))
  have HB1 := Lib.hid (And.intro b1 (And.intro b2 (And.intro b3 b4)))
  have hl5 : L ≤ 50000 := by omega
  have HLL := Lib.hid hll
  clear HE2 hf2 hf02 hf13 hdo3 hro3 hbx3 hnew hd2 hr2 hpg hrg hgg hbg hg hll hgl hs1 hs2 hs3 HX HI HF12 b1 b2 b3 b4
  obtain ⟨d0, d1, d2, d3, d4⟩ := HD2.out.cells
  obtain ⟨r0, r1, r2, r3, r4⟩ := HDO.out.cells
  have bx0 := cell_of_one HBX2.out
  go_wp2
  clear d0 d1 d2 d3 d4 r0 r1 r2 r3 r4 bx0
  go_loopw [6] (fun i wr => MLRel G fo s off omn omx g' L cp w3 wr i) (fun i _ => (omx + 1 - intOf i).toNat)
  case atStart => exact ⟨omn, rfl, Int.le_refl _, by omega, HR2.out.ext (fun j _ => by rw [accL_zero _ _ _ _ HZO.out.1]), Fr.refl _ _⟩
  case round =>
    obtain ⟨x, rfl, hx1, hx2, hrow, hfr⟩ := hrel
    obtain ⟨d0, d1, d2, d3, d4⟩ := (HD2.out.fr hfr HPG.out).cells
    obtain ⟨r0, r1, r2, r3, r4⟩ := (HDO.out.fr hfr (fun h => HRG.out h)).cells
    have bx0 := cell_of_one (hfr.heap HBX2.out (fun h => HBG.out h))
    by_cases c1 : x < s
    · by_cases c2 : x ≤ omx
      · have hos : off = s := by have := HOFF.out; have := HB1.out; have := HLL.out; omega
        have hjx : off + ((0 : Nat) : Int) = max x s := by omega
        have hjL : 0 < L := by have := HB1.out; omega
        have hjL' : (0 : Int) < (L : Int) := by omega
        obtain ⟨k, hk⟩ : ∃ k : Nat, x - offo = (k : Int) := ⟨(x - offo).toNat, by omega⟩
        have hkL : k < Lo := by omega
        have hkL' : (k : Int) < (Lo : Int) := by omega
        have hcell := hrow.cell 0 hjL
        have hfree := hrow.free 0
        rw [hjx] at hcell
        have hoc := (HRO.out.fr hfr (fun h => HGG.out h)).cell k hkL
        rw [show offo + (k : Int) = x from by omega] at hoc
        have hadd := fun w : World => run_float_arith (P := Tryz.prog) w .add 30 .f64 _ _ _ (nf_add (accL G fo s x (max x s)) (fo x) (HSM.out x (max x s)))
        have i2 : IntKind.i64.wrap (x - offo) = (k : Int) := by rw [IntKind.wrap_i64]; omega
        have i3 : IntKind.i64.wrap (x + 1) = x + 1 := by rw [IntKind.wrap_i64]; omega
        obtain ⟨u, hu⟩ : ∃ u, u = nf (accL G fo s x (max x s)) := ⟨_, rfl⟩
        obtain ⟨v, hv⟩ : ∃ v, v = nf (fo x) := ⟨_, rfl⟩
        obtain ⟨y, hy⟩ : ∃ y, y = nf (accL G fo s x (max x s) + fo x) := ⟨_, rfl⟩
        rw [← hu] at hcell hadd
        rw [← hv] at hoc hadd
        rw [← hy] at hadd
        have HY := Lib.hid hy
        have HO := Lib.hid hrow
        have HFR := Lib.hid hfr
        have HJX := Lib.hid hjx
        clear hrow hfr hjx hu hv hy hk
        go_wp2
        go_still_tail 23, (by kernel_rfl)
        show wpList _ _ _ _ _ wr.drew
        go_wp2
        go_roundw
        case rel =>
          have hset := HO.out.drew.set 0 (accL G fo s x (max x s) + fo x) hjL
          rw [← HY.out] at hset
          have hnx : Row (wr.drew.setCell ⟨g', 0, none⟩ (.float .f64 y)) g' L cp (fun j => accL G fo s (x + 1) (off + j)) := hset.ext (fun i hi => by
            have hjx := HJX.out
            rw [accL_step _ _ _ _ (by omega)]
            by_cases hij : (i : Int) = (0 : Nat)
            · rw [if_pos (by omega), if_pos (by omega), show off + (i : Int) = max x s from by omega]
            · rw [if_neg (by omega), if_neg (by omega)])
          have hfn : Fr (fun b => b = g') w3 (wr.drew.setCell ⟨g', 0, none⟩ (.float .f64 y)) := HFR.out.drew.setCell (p := ⟨g', 0, none⟩) (fun _ => rfl) _
          exact ⟨x + 1, by go_num, by omega, by omega, hnx, hfn⟩
        case measure => simp [intOf]; omega
      · obtain rfl : x = omx + 1 := by omega
        go_wp2
        clear d0 d1 d2 d3 d4 r0 r1 r2 r3 r4 bx0
        go_loopw [6] (fun i wr => MLRel3 G fo s off (omx + 1) g' L cp w3 wr i) (fun _ _ => 0)
        case atStart => exact ⟨rfl, hrow, hfr⟩
        case round =>
          clear hrow hfr
          obtain ⟨rfl, hrow, hfr⟩ := hrel
          obtain ⟨d0, d1, d2, d3, d4⟩ := (HD2.out.fr hfr HPG.out).cells
          obtain ⟨r0, r1, r2, r3, r4⟩ := (HDO.out.fr hfr (fun h => HRG.out h)).cells
          have bx0 := cell_of_one (hfr.heap HBX2.out (fun h => HBG.out h))
          have hadd := fun w : World => run_float_arith (P := Tryz.prog) w .add 30 .f64 _ _ _ (nf_add n no HSN.out)
          have f1 := (HD2.out.fr hfr HPG.out).free 1
          obtain ⟨c1, hc1⟩ : ∃ c1, c1 = nf n := ⟨_, rfl⟩
          obtain ⟨c2, hc2⟩ : ∃ c2, c2 = nf no := ⟨_, rfl⟩
          obtain ⟨c3, hc3⟩ : ∃ c3, c3 = nf (n + no) := ⟨_, rfl⟩
          rw [← hc1] at d1 hadd
          rw [← hc2] at r1 hadd
          rw [← hc3] at hadd
          have HC3 := Lib.hid hc3
          have HO := Lib.hid hrow
          have HFR := Lib.hid hfr
          clear hrow hfr hc1 hc2 hc3
          go_wp2
          go_still_tail 14, (by kernel_rfl)
          show wpList _ _ _ _ _ wr.drew
          go_wp2
          go_end0
          have hd9 := ((HD2.out.fr HFR.out HPG.out).drew).set1 (.float .f64 c3)
          have hr9 : Row (wr.drew.setCell ⟨p, 1, none⟩ (.float .f64 c3)) g' L cp (fun j => (fun i => G i + sqL fo s i) (off + j)) := by
            have h := (HO.out.drew.other (p := ⟨p, 1, none⟩) HPG.out (.float .f64 c3))
            rw [accL_end G fo s omx HZO.out.2] at h
            exact h
          rw [HC3.out] at hd9 hr9
          refine ⟨g', L, cp, rfl, ⟨off, by rw [HC3.out]; exact hd9, by rw [HC3.out]; exact hr9, HB1.out.1, HB1.out.2.1, HB1.out.2.2.1, HB1.out.2.2.2⟩, HPG.out, HLL.out, ?_, HG.out⟩
          refine ((HF2.out.trans HFR.out.drew (fun _ _ h => h) (fun i hi h => ?_))).setCell (p := ⟨p, 1, none⟩) (fun _ => .inl rfl) _
          rcases HG.out with h2 | h2
          · right; rw [h2, h]
          · omega
    · have hsx : s ≤ x ∨ x = omx + 1 := .inl (by omega)
      replace c1 := Int.not_lt.1 c1
      go_wp2
      clear d0 d1 d2 d3 d4 r0 r1 r2 r3 r4 bx0
      go_loopw [6] (fun i wr => MLRel2 G fo s off omn omx g' L cp w3 wr i) (fun i _ => (omx + 1 - intOf i).toNat)
      case atStart => exact ⟨x, rfl, hx1, hx2, hsx, hrow, hfr⟩
      case round =>
        clear hrow hfr hx1 hx2 hsx
        obtain ⟨x, rfl, hx1, hx2, hsx, hrow, hfr⟩ := hrel
        obtain ⟨d0, d1, d2, d3, d4⟩ := (HD2.out.fr hfr HPG.out).cells
        obtain ⟨r0, r1, r2, r3, r4⟩ := (HDO.out.fr hfr (fun h => HRG.out h)).cells
        have bx0 := cell_of_one (hfr.heap HBX2.out (fun h => HBG.out h))
        by_cases c2 : x < omx
        · obtain ⟨j, hj⟩ : ∃ j : Nat, x - off = (j : Int) := ⟨(x - off).toNat, by have := HB1.out; omega⟩
          have hjx : off + ((j : Nat) : Int) = max x s := by omega
          have hjL : j < L := by have := HB1.out; omega
          have hjL' : (j : Int) < (L : Int) := by omega
          obtain ⟨k, hk⟩ : ∃ k : Nat, x - offo = (k : Int) := ⟨(x - offo).toNat, by omega⟩
          have hkL : k < Lo := by omega
          have hkL' : (k : Int) < (Lo : Int) := by omega
          have hcell := hrow.cell j hjL
          have hfree := hrow.free j
          rw [hjx] at hcell
          have hoc := (HRO.out.fr hfr (fun h => HGG.out h)).cell k hkL
          rw [show offo + (k : Int) = x from by omega] at hoc
          have hadd := fun w : World => run_float_arith (P := Tryz.prog) w .add 30 .f64 _ _ _ (nf_add (accL G fo s x (max x s)) (fo x) (HSM.out x (max x s)))
          have i2 : IntKind.i64.wrap (x - offo) = (k : Int) := by rw [IntKind.wrap_i64]; omega
          have i3 : IntKind.i64.wrap (x + 1) = x + 1 := by rw [IntKind.wrap_i64]; omega
          have i1 : IntKind.i64.wrap (x - off) = (j : Int) := by rw [IntKind.wrap_i64]; omega
          obtain ⟨u, hu⟩ : ∃ u, u = nf (accL G fo s x (max x s)) := ⟨_, rfl⟩
          obtain ⟨v, hv⟩ : ∃ v, v = nf (fo x) := ⟨_, rfl⟩
          obtain ⟨y, hy⟩ : ∃ y, y = nf (accL G fo s x (max x s) + fo x) := ⟨_, rfl⟩
          rw [← hu] at hcell hadd
          rw [← hv] at hoc hadd
          rw [← hy] at hadd
          have HY := Lib.hid hy
          have HO := Lib.hid hrow
          have HFR := Lib.hid hfr
          have HJX := Lib.hid hjx
          clear hrow hfr hjx hu hv hy hk hj
          go_wp2
          go_still_tail 30, (by kernel_rfl)
          show wpList _ _ _ _ _ wr.drew
          go_wp2
          go_roundw
          case rel =>
            have hset := HO.out.drew.set j (accL G fo s x (max x s) + fo x) hjL
            rw [← HY.out] at hset
            have hnx : Row (wr.drew.setCell ⟨g', j, none⟩ (.float .f64 y)) g' L cp (fun j => accL G fo s (x + 1) (off + j)) := hset.ext (fun i hi => by
              have hjx := HJX.out
              rw [accL_step _ _ _ _ (by omega)]
              by_cases hij : (i : Int) = (j : Nat)
              · rw [if_pos (by omega), if_pos (by omega), show off + (i : Int) = max x s from by omega]
              · rw [if_neg (by omega), if_neg (by omega)])
            have hfn : Fr (fun b => b = g') w3 (wr.drew.setCell ⟨g', j, none⟩ (.float .f64 y)) := HFR.out.drew.setCell (p := ⟨g', j, none⟩) (fun _ => rfl) _
            exact ⟨x + 1, by go_num, by omega, by omega, by omega, hnx, hfn⟩
          case measure => simp [intOf]; omega
        · replace c2 := Int.not_lt.1 c2
          by_cases c3 : x = omx
          · have hsm := HSM.out
            subst c3
            obtain ⟨j, hj⟩ : ∃ j : Nat, x - off = (j : Int) := ⟨(x - off).toNat, by have := HB1.out; omega⟩
            have hjx : off + ((j : Nat) : Int) = max x s := by omega
            have hjL : j < L := by have := HB1.out; omega
            have hjL' : (j : Int) < (L : Int) := by omega
            obtain ⟨k, hk⟩ : ∃ k : Nat, x - offo = (k : Int) := ⟨(x - offo).toNat, by omega⟩
            have hkL : k < Lo := by omega
            have hkL' : (k : Int) < (Lo : Int) := by omega
            have hcell := hrow.cell j hjL
            have hfree := hrow.free j
            rw [hjx] at hcell
            have hoc := (HRO.out.fr hfr (fun h => HGG.out h)).cell k hkL
            rw [show offo + (k : Int) = x from by omega] at hoc
            have hadd := fun w : World => run_float_arith (P := Tryz.prog) w .add 30 .f64 _ _ _ (nf_add (accL G fo s x (max x s)) (fo x) (HSM.out x (max x s)))
            have i2 : IntKind.i64.wrap (x - offo) = (k : Int) := by rw [IntKind.wrap_i64]; omega
            have i3 : IntKind.i64.wrap (x + 1) = x + 1 := by rw [IntKind.wrap_i64]; omega
            have i1 : IntKind.i64.wrap (x - off) = (j : Int) := by rw [IntKind.wrap_i64]; omega
            obtain ⟨u, hu⟩ : ∃ u, u = nf (accL G fo s x (max x s)) := ⟨_, rfl⟩
            obtain ⟨v, hv⟩ : ∃ v, v = nf (fo x) := ⟨_, rfl⟩
            obtain ⟨y, hy⟩ : ∃ y, y = nf (accL G fo s x (max x s) + fo x) := ⟨_, rfl⟩
            rw [← hu] at hcell hadd
            rw [← hv] at hoc hadd
            rw [← hy] at hadd
            have HY := Lib.hid hy
            have HO := Lib.hid hrow
            have HFR := Lib.hid hfr
            have HJX := Lib.hid hjx
            clear hrow hfr hjx hu hv hy hk hj
            go_wp2
            go_still_tail 30, (by kernel_rfl)
            show wpList _ _ _ _ _ wr.drew
            go_wp2
            have hset := HO.out.drew.set j (accL G fo s x (max x s) + fo x) hjL
            rw [← HY.out] at hset
            have hnx : Row (wr.drew.setCell ⟨g', j, none⟩ (.float .f64 y)) g' L cp (fun j => accL G fo s (x + 1) (off + j)) := hset.ext (fun i hi => by
              have hjx := HJX.out
              rw [accL_step _ _ _ _ (by omega)]
              by_cases hij : (i : Int) = (j : Nat)
              · rw [if_pos (by omega), if_pos (by omega), show off + (i : Int) = max x s from by omega]
              · rw [if_neg (by omega), if_neg (by omega)])
            have hfn : Fr (fun b => b = g') w3 (wr.drew.setCell ⟨g', j, none⟩ (.float .f64 y)) := HFR.out.drew.setCell (p := ⟨g', j, none⟩) (fun _ => rfl) _
            obtain ⟨ww, hww⟩ : ∃ ww, ww = (wr.setCell ⟨g', j, none⟩ (.float .f64 y)).drew := ⟨_, rfl⟩
            rw [← hww]
            replace hnx : Row ww g' L cp (fun j => accL G fo s (x + 1) (off + j)) := by rw [hww]; exact hnx
            replace hfn : Fr (fun b => b = g') w3 ww := by rw [hww]; exact hfn
            clear hww hset d0 d1 d2 d3 d4 r0 r1 r2 r3 r4 bx0 hcell hfree hoc hadd HO HFR HY HJX
            obtain ⟨d0, d1, d2, d3, d4⟩ := (HD2.out.fr hfn HPG.out).cells
            obtain ⟨r0, r1, r2, r3, r4⟩ := (HDO.out.fr hfn (fun h => HRG.out h)).cells
            have bx0 := cell_of_one (hfn.heap HBX2.out (fun h => HBG.out h))
            have hadd := fun w : World => run_float_arith (P := Tryz.prog) w .add 30 .f64 _ _ _ (nf_add n no HSN.out)
            have f1 := (HD2.out.fr hfn HPG.out).free 1
            obtain ⟨c1, hc1⟩ : ∃ c1, c1 = nf n := ⟨_, rfl⟩
            obtain ⟨c2, hc2⟩ : ∃ c2, c2 = nf no := ⟨_, rfl⟩
            obtain ⟨c3, hc3⟩ : ∃ c3, c3 = nf (n + no) := ⟨_, rfl⟩
            rw [← hc1] at d1 hadd
            rw [← hc2] at r1 hadd
            rw [← hc3] at hadd
            have HC3 := Lib.hid hc3
            have HO := Lib.hid hnx
            have HFR := Lib.hid hfn
            clear hnx hfn hc1 hc2 hc3
            go_wp2
            go_still_tail 14, (by kernel_rfl)
            show wpList _ _ _ _ _ ww.drew
            go_wp2
            go_end0
            have hd9 := ((HD2.out.fr HFR.out HPG.out).drew).set1 (.float .f64 c3)
            have hr9 : Row (ww.drew.setCell ⟨p, 1, none⟩ (.float .f64 c3)) g' L cp (fun j => (fun i => G i + sqL fo s i) (off + j)) := by
              have h := (HO.out.drew.other (p := ⟨p, 1, none⟩) HPG.out (.float .f64 c3))
              rw [accL_end G fo s x HZO.out.2] at h
              exact h
            rw [HC3.out] at hd9 hr9
            refine ⟨g', L, cp, rfl, ⟨off, by rw [HC3.out]; exact hd9, by rw [HC3.out]; exact hr9, HB1.out.1, HB1.out.2.1, HB1.out.2.2.1, HB1.out.2.2.2⟩, HPG.out, HLL.out, ?_, HG.out⟩
            refine ((HF2.out.trans HFR.out.drew (fun _ _ h => h) (fun i hi h => ?_))).setCell (p := ⟨p, 1, none⟩) (fun _ => .inl rfl) _
            rcases HG.out with h2 | h2
            · right; rw [h2, h]
            · omega
          · have hxe : x = omx + 1 := by omega
            rw [hxe] at hrow
            have hadd := fun w : World => run_float_arith (P := Tryz.prog) w .add 30 .f64 _ _ _ (nf_add n no HSN.out)
            have f1 := (HD2.out.fr hfr HPG.out).free 1
            obtain ⟨c1, hc1⟩ : ∃ c1, c1 = nf n := ⟨_, rfl⟩
            obtain ⟨c2, hc2⟩ : ∃ c2, c2 = nf no := ⟨_, rfl⟩
            obtain ⟨c3, hc3⟩ : ∃ c3, c3 = nf (n + no) := ⟨_, rfl⟩
            rw [← hc1] at d1 hadd
            rw [← hc2] at r1 hadd
            rw [← hc3] at hadd
            have HC3 := Lib.hid hc3
            have HO := Lib.hid hrow
            have HFR := Lib.hid hfr
            clear hrow hfr hc1 hc2 hc3
            go_wp2
            go_still_tail 14, (by kernel_rfl)
            show wpList _ _ _ _ _ wr.drew
            go_wp2
            go_end0
            have hd9 := ((HD2.out.fr HFR.out HPG.out).drew).set1 (.float .f64 c3)
            have hr9 : Row (wr.drew.setCell ⟨p, 1, none⟩ (.float .f64 c3)) g' L cp (fun j => (fun i => G i + sqL fo s i) (off + j)) := by
              have h := (HO.out.drew.other (p := ⟨p, 1, none⟩) HPG.out (.float .f64 c3))
              rw [accL_end G fo s omx HZO.out.2] at h
              exact h
            rw [HC3.out] at hd9 hr9
            refine ⟨g', L, cp, rfl, ⟨off, by rw [HC3.out]; exact hd9, by rw [HC3.out]; exact hr9, HB1.out.1, HB1.out.2.1, HB1.out.2.2.1, HB1.out.2.2.2⟩, HPG.out, HLL.out, ?_, HG.out⟩
            refine ((HF2.out.trans HFR.out.drew (fun _ _ h => h) (fun i hi h => ?_))).setCell (p := ⟨p, 1, none⟩) (fun _ => .inl rfl) _
            rcases HG.out with h2 | h2
            · right; rw [h2, h]
            · omega

end Go.Proofs.YtnmbjalojgccmaaGreat
end
/-
  The merge of the collapsing stores, one more case. (Printed by gen_mergel.py.)
-/
section
namespace Go.Proofs.YtnmbjalojgccmaaGreat
open Go.RowKit

set_option maxRecDepth 100000 in
set_option maxHeartbeats 4000000 in
theorem mergeL_coreC (G fo : Int → Nat) (n no M : Nat) (mn mx s nb omn omx : Int) (p r go Lo cpo : Nat) (g : Option Nat) (rest resto : List Value) (w : World) (d3 : w.cell? ⟨p, 3, none⟩ = some (.int .i64 mn)) (d4 : w.cell? ⟨p, 4, none⟩ = some (.int .i64 mx)) (hp : p < w.heap.size)
   (hX : ∀ w2, Fr (fun _ => False) w w2 → Calls Tryz.prog 331 #[.pointer (some ⟨p, 0, none⟩), .int .i64 omn, .int .i64 omx] w2 fun e w' => ExtL G (.float .f64 (nf n)) M s nb p g rest 179 w2 e w')
   (hI : mn ≤ omn → omx ≤ mx → ∀ w2, Fr (fun _ => False) w w2 → ExtL G (.float .f64 (nf n)) M s nb p g rest 179 w2 (.returned (.tuple #[])) w2)
   (hoff : omn < s → s = nb - M + 1) (hsb : s ≤ nb) (hnb : omx ≤ nb) (hle : omn ≤ omx) (hlo : -10000 ≤ omn) (hhi : omx ≤ 10000) (hM5 : M ≤ 50000)
   (hdo : DenseOk fo (.float .f64 (nf no)) omn omx r go Lo cpo resto 179 w) (hz : (∀ i, i < omn → fo i = 0) ∧ ∀ i, omx < i → fo i = 0) (hno : 0 < no) (hsn : n + no < 9007199254740992) (hsm : ∀ x i, accL G fo s x i + fo x < 9007199254740992)
   (hrp : r ≠ p) (hrg : g ≠ some r) (hgp : go ≠ p) (hgg : g ≠ some go) (hgl : ∀ x, g = some x → x < w.heap.size) (k1 : mn ≤ omn) (k2 : omx ≤ mx) :
    Calls Tryz.prog 328 #[.pointer (some ⟨p, 0, none⟩), .iface 136 (.pointer (some ⟨r, 0, none⟩))] w fun e w' => MergedL (fun i => G i + sqL fo s i) (n + no) M s nb p g rest 179 w e w' := by
  have hmf : ∀ (fn : Fn) (first cap : Array Value) (w : World), (Instr.makeFunc fn first cap).run Tryz.prog w = .ok (.func fn first cap) w := fun _ _ _ _ => rfl
  have hta := fun w => run_assert_same (P := Tryz.prog) 136 70 179 (.pointer (some ⟨r, 0, none⟩)) Tryz.underlying136 w
  obtain ⟨w1, hw1⟩ : ∃ w1, w1 = w.alloc (.cells #[.pointer (some ⟨p, 0, none⟩)] 136) := ⟨_, rfl⟩
  have hf01 : Fr (fun _ => False) w w1 := by rw [hw1]; exact (Fr.refl _ w).alloc _
  have hs1 : w1.heap.size = w.heap.size + 1 := by rw [hw1]; simp
  have hbx : w1.heap[w.heap.size]? = some (.cells #[.pointer (some ⟨p, 0, none⟩)] 136 (0, 0)) := by rw [hw1]; exact heap_alloc_new w _
  have hdo1 := hdo.fr hf01 (fun h => h) (fun h => h)
  obtain ⟨offo, hdo2, hro2, q1, q2, q3, q4⟩ := hdo1
  obtain ⟨off0, hdw, hrw, -⟩ := hdo
  have hrlt := hdw.lt
  have hglt := hrw.lt
  clear hdw hrw
  obtain ⟨r0, r1, r2, r3, r4⟩ := hdo2.cells
  have HEM : Calls Tryz.prog 205 #[.pointer (some ⟨r, 0, none⟩)] (w.alloc (.cells #[.pointer (some ⟨p, 0, none⟩)] 136)) fun e w' => e = .returned (.bool false) ∧ w' = w1 := by
    rw [← hw1]
    refine (isEmptyD_any r no (by omega) w1 r1).mono ?_
    rintro e w' ⟨rfl, rfl⟩
    exact ⟨by rw [show (no == 0) = false from by simp; omega], rfl⟩
  have e3 := hf01.cell d3 (fun h => h)
  have e4 := hf01.cell d4 (fun h => h)
  have bx0 := cell_of_one hbx
  have hM : ∀ w, (method 405 136 (.pointer (some ⟨r, 0, none⟩)) "IsEmpty").run Tryz.prog w = .ok (205, .pointer (some ⟨r, 0, none⟩)) w := toldL.mEmp r
  have hE : ∀ args w, (callFunc 205 args).run Tryz.prog w = .ok (.enter 205 args) w := toldL.eEmp
  have HDO1 := Lib.hid hdo2
  have HRO1 := Lib.hid hro2
  have HBX1 := Lib.hid hbx
  have HX := Lib.hid hX
  have HI := Lib.hid hI
  have HF01 := Lib.hid hf01
  have HW1 := Lib.hid hw1
  have HS1 := Lib.hid hs1
  have HZO := Lib.hid hz
  have HSM := Lib.hid hsm
  have HSN := Lib.hid hsn
  have HGP := Lib.hid hgp
  have HRP := Lib.hid hrp
  have HRG0 := Lib.hid hrg
  have HGG0 := Lib.hid hgg
  have HGL := Lib.hid hgl
  have HOFF := Lib.hid hoff
  clear hX hI hdo2 hro2 hbx hw1 hf01 d3 d4 r0 r1 r2 hz hsm hsn hgp hrp hrg hgg hgl hs1 hoff
  have g1 : decide (omn < mn) = false := by simpa using k1
  have g2 : decide (mx < omx) = false := by simpa using k2
  go_enter Tryz.func328, Tryz.ntmps328
  go_wp2_with (go_at_fn 205; (with_reducible refine HEM.mono ?_); rintro e w2 ⟨rfl, rfl⟩; clear HEM hM hE)
  go_quiet (fail)
  obtain ⟨w3, hw3⟩ : ∃ w3, w3 = w2.drewN nq := ⟨_, rfl⟩
  have HF12 := Lib.hid (show Fr (fun _ => False) w2 w3 by rw [hw3]; exact (Fr.refl _ w2).drewN nq)
  have HE2 := Lib.hid (HI.out (by omega) (by omega) w3 (HF01.out.trans HF12.out (fun _ _ h => h) (fun _ _ h => h.elim)))
  rw [← hw3]
  clear hw3 e3 e4 bx0 r3 r4
  obtain ⟨g', L, cp, -, ⟨off, hd2, hr2, b1, b2, b3, b4⟩, hpg, hll, hf2, hg⟩ := HE2.out
  have hs2 := HF12.out.size
  have hs3 := hf2.size
  have hs1 := HS1.out
  have hgl := HGL.out
  have hf02 : Fr (fun b => b = p ∨ g = some b) w w3 := (HF01.out.trans HF12.out (fun _ _ h => h) (fun _ _ h => h.elim)).trans hf2 (fun _ _ h => h.elim) (fun _ _ h => h)
  have hnew : ∀ b, b < w2.heap.size → ¬ (g = some b) → b ≠ g' := fun b hb h h2 => by
    rcases hg with h3 | h3
    · exact h (by rw [h2]; exact h3)
    · omega
  have hrg := hnew r (by omega) HRG0.out
  have hgg := hnew go (by omega) HGG0.out
  have hbg := hnew w.heap.size (by omega) (fun h => by have := hgl _ h; omega)
  have hf13 : Fr (fun b => b = p ∨ g = some b) w2 w3 := HF12.out.trans hf2 (fun _ _ h => h.elim) (fun _ _ h => h)
  have hdo3 := HDO1.out.fr hf13 (fun h => h.elim HRP.out HRG0.out)
  have hro3 := HRO1.out.fr hf13 (fun h => h.elim HGP.out HGG0.out)
  have hbx3 := hf13.heap HBX1.out (fun h => h.elim (fun h => by omega) (fun h => by have := hgl _ h; omega))
  have HD2 := Lib.hid hd2
  have HR2 := Lib.hid hr2
  have HDO := Lib.hid hdo3
  have HRO := Lib.hid hro3
  have HBX2 := Lib.hid hbx3
  have HPG := Lib.hid hpg
  have HRG := Lib.hid hrg
  have HGG := Lib.hid hgg
  have HBG := Lib.hid hbg
  have HF2 := Lib.hid hf02
  have HG := Lib.hid (show g = some g' ∨ w.heap.size ≤ g' from hg.imp id (fun h => by omega))
  have HB1 := Lib.hid (And.intro b1 (And.intro b2 (And.intro b3 b4)))
  have hl5 : L ≤ 50000 := by omega
  have HLL := Lib.hid hll
  clear HE2 hf2 hf02 hf13 hdo3 hro3 hbx3 hnew hd2 hr2 hpg hrg hgg hbg hg hll hgl hs1 hs2 hs3 HX HI HF12 b1 b2 b3 b4
  obtain ⟨d0, d1, d2, d3, d4⟩ := HD2.out.cells
  obtain ⟨r0, r1, r2, r3, r4⟩ := HDO.out.cells
  have bx0 := cell_of_one HBX2.out
  go_wp2
  clear d0 d1 d2 d3 d4 r0 r1 r2 r3 r4 bx0
  go_loopw [6] (fun i wr => MLRel G fo s off omn omx g' L cp w3 wr i) (fun i _ => (omx + 1 - intOf i).toNat)
  case atStart => exact ⟨omn, rfl, Int.le_refl _, by omega, HR2.out.ext (fun j _ => by rw [accL_zero _ _ _ _ HZO.out.1]), Fr.refl _ _⟩
  case round =>
    obtain ⟨x, rfl, hx1, hx2, hrow, hfr⟩ := hrel
    obtain ⟨d0, d1, d2, d3, d4⟩ := (HD2.out.fr hfr HPG.out).cells
    obtain ⟨r0, r1, r2, r3, r4⟩ := (HDO.out.fr hfr (fun h => HRG.out h)).cells
    have bx0 := cell_of_one (hfr.heap HBX2.out (fun h => HBG.out h))
    by_cases c1 : x < s
    · by_cases c2 : x ≤ omx
      · have hos : off = s := by have := HOFF.out; have := HB1.out; have := HLL.out; omega
        have hjx : off + ((0 : Nat) : Int) = max x s := by omega
        have hjL : 0 < L := by have := HB1.out; omega
        have hjL' : (0 : Int) < (L : Int) := by omega
        obtain ⟨k, hk⟩ : ∃ k : Nat, x - offo = (k : Int) := ⟨(x - offo).toNat, by omega⟩
        have hkL : k < Lo := by omega
        have hkL' : (k : Int) < (Lo : Int) := by omega
        have hcell := hrow.cell 0 hjL
        have hfree := hrow.free 0
        rw [hjx] at hcell
        have hoc := (HRO.out.fr hfr (fun h => HGG.out h)).cell k hkL
        rw [show offo + (k : Int) = x from by omega] at hoc
        have hadd := fun w : World => run_float_arith (P := Tryz.prog) w .add 30 .f64 _ _ _ (nf_add (accL G fo s x (max x s)) (fo x) (HSM.out x (max x s)))
        have i2 : IntKind.i64.wrap (x - offo) = (k : Int) := by rw [IntKind.wrap_i64]; omega
        have i3 : IntKind.i64.wrap (x + 1) = x + 1 := by rw [IntKind.wrap_i64]; omega
        obtain ⟨u, hu⟩ : ∃ u, u = nf (accL G fo s x (max x s)) := ⟨_, rfl⟩
        obtain ⟨v, hv⟩ : ∃ v, v = nf (fo x) := ⟨_, rfl⟩
        obtain ⟨y, hy⟩ : ∃ y, y = nf (accL G fo s x (max x s) + fo x) := ⟨_, rfl⟩
        rw [← hu] at hcell hadd
        rw [← hv] at hoc hadd
        rw [← hy] at hadd
        have HY := Lib.hid hy
        have HO := Lib.hid hrow
        have HFR := Lib.hid hfr
        have HJX := Lib.hid hjx
        clear hrow hfr hjx hu hv hy hk
        go_wp2
        go_still_tail 23, (by kernel_rfl)
        show wpList _ _ _ _ _ wr.drew
        go_wp2
        go_roundw
        case rel =>
          have hset := HO.out.drew.set 0 (accL G fo s x (max x s) + fo x) hjL
          rw [← HY.out] at hset
          have hnx : Row (wr.drew.setCell ⟨g', 0, none⟩ (.float .f64 y)) g' L cp (fun j => accL G fo s (x + 1) (off + j)) := hset.ext (fun i hi => by
            have hjx := HJX.out
            rw [accL_step _ _ _ _ (by omega)]
            by_cases hij : (i : Int) = (0 : Nat)
            · rw [if_pos (by omega), if_pos (by omega), show off + (i : Int) = max x s from by omega]
            · rw [if_neg (by omega), if_neg (by omega)])
          have hfn : Fr (fun b => b = g') w3 (wr.drew.setCell ⟨g', 0, none⟩ (.float .f64 y)) := HFR.out.drew.setCell (p := ⟨g', 0, none⟩) (fun _ => rfl) _
          exact ⟨x + 1, by go_num, by omega, by omega, hnx, hfn⟩
        case measure => simp [intOf]; omega
      · obtain rfl : x = omx + 1 := by omega
        go_wp2
        clear d0 d1 d2 d3 d4 r0 r1 r2 r3 r4 bx0
        go_loopw [6] (fun i wr => MLRel3 G fo s off (omx + 1) g' L cp w3 wr i) (fun _ _ => 0)
        case atStart => exact ⟨rfl, hrow, hfr⟩
        case round =>
          clear hrow hfr
          obtain ⟨rfl, hrow, hfr⟩ := hrel
          obtain ⟨d0, d1, d2, d3, d4⟩ := (HD2.out.fr hfr HPG.out).cells
          obtain ⟨r0, r1, r2, r3, r4⟩ := (HDO.out.fr hfr (fun h => HRG.out h)).cells
          have bx0 := cell_of_one (hfr.heap HBX2.out (fun h => HBG.out h))
          have hadd := fun w : World => run_float_arith (P := Tryz.prog) w .add 30 .f64 _ _ _ (nf_add n no HSN.out)
          have f1 := (HD2.out.fr hfr HPG.out).free 1
          obtain ⟨c1, hc1⟩ : ∃ c1, c1 = nf n := ⟨_, rfl⟩
          obtain ⟨c2, hc2⟩ : ∃ c2, c2 = nf no := ⟨_, rfl⟩
          obtain ⟨c3, hc3⟩ : ∃ c3, c3 = nf (n + no) := ⟨_, rfl⟩
          rw [← hc1] at d1 hadd
          rw [← hc2] at r1 hadd
          rw [← hc3] at hadd
          have HC3 := Lib.hid hc3
          have HO := Lib.hid hrow
          have HFR := Lib.hid hfr
          clear hrow hfr hc1 hc2 hc3
          go_wp2
          go_still_tail 14, (by kernel_rfl)
          show wpList _ _ _ _ _ wr.drew
          go_wp2
          go_end0
          have hd9 := ((HD2.out.fr HFR.out HPG.out).drew).set1 (.float .f64 c3)
          have hr9 : Row (wr.drew.setCell ⟨p, 1, none⟩ (.float .f64 c3)) g' L cp (fun j => (fun i => G i + sqL fo s i) (off + j)) := by
            have h := (HO.out.drew.other (p := ⟨p, 1, none⟩) HPG.out (.float .f64 c3))
            rw [accL_end G fo s omx HZO.out.2] at h
            exact h
          rw [HC3.out] at hd9 hr9
          refine ⟨g', L, cp, rfl, ⟨off, by rw [HC3.out]; exact hd9, by rw [HC3.out]; exact hr9, HB1.out.1, HB1.out.2.1, HB1.out.2.2.1, HB1.out.2.2.2⟩, HPG.out, HLL.out, ?_, HG.out⟩
          refine ((HF2.out.trans HFR.out.drew (fun _ _ h => h) (fun i hi h => ?_))).setCell (p := ⟨p, 1, none⟩) (fun _ => .inl rfl) _
          rcases HG.out with h2 | h2
          · right; rw [h2, h]
          · omega
    · have hsx : s ≤ x ∨ x = omx + 1 := .inl (by omega)
      replace c1 := Int.not_lt.1 c1
      go_wp2
      clear d0 d1 d2 d3 d4 r0 r1 r2 r3 r4 bx0
      go_loopw [6] (fun i wr => MLRel2 G fo s off omn omx g' L cp w3 wr i) (fun i _ => (omx + 1 - intOf i).toNat)
      case atStart => exact ⟨x, rfl, hx1, hx2, hsx, hrow, hfr⟩
      case round =>
        clear hrow hfr hx1 hx2 hsx
        obtain ⟨x, rfl, hx1, hx2, hsx, hrow, hfr⟩ := hrel
        obtain ⟨d0, d1, d2, d3, d4⟩ := (HD2.out.fr hfr HPG.out).cells
        obtain ⟨r0, r1, r2, r3, r4⟩ := (HDO.out.fr hfr (fun h => HRG.out h)).cells
        have bx0 := cell_of_one (hfr.heap HBX2.out (fun h => HBG.out h))
        by_cases c2 : x < omx
        · obtain ⟨j, hj⟩ : ∃ j : Nat, x - off = (j : Int) := ⟨(x - off).toNat, by have := HB1.out; omega⟩
          have hjx : off + ((j : Nat) : Int) = max x s := by omega
          have hjL : j < L := by have := HB1.out; omega
          have hjL' : (j : Int) < (L : Int) := by omega
          obtain ⟨k, hk⟩ : ∃ k : Nat, x - offo = (k : Int) := ⟨(x - offo).toNat, by omega⟩
          have hkL : k < Lo := by omega
          have hkL' : (k : Int) < (Lo : Int) := by omega
          have hcell := hrow.cell j hjL
          have hfree := hrow.free j
          rw [hjx] at hcell
          have hoc := (HRO.out.fr hfr (fun h => HGG.out h)).cell k hkL
          rw [show offo + (k : Int) = x from by omega] at hoc
          have hadd := fun w : World => run_float_arith (P := Tryz.prog) w .add 30 .f64 _ _ _ (nf_add (accL G fo s x (max x s)) (fo x) (HSM.out x (max x s)))
          have i2 : IntKind.i64.wrap (x - offo) = (k : Int) := by rw [IntKind.wrap_i64]; omega
          have i3 : IntKind.i64.wrap (x + 1) = x + 1 := by rw [IntKind.wrap_i64]; omega
          have i1 : IntKind.i64.wrap (x - off) = (j : Int) := by rw [IntKind.wrap_i64]; omega
          obtain ⟨u, hu⟩ : ∃ u, u = nf (accL G fo s x (max x s)) := ⟨_, rfl⟩
          obtain ⟨v, hv⟩ : ∃ v, v = nf (fo x) := ⟨_, rfl⟩
          obtain ⟨y, hy⟩ : ∃ y, y = nf (accL G fo s x (max x s) + fo x) := ⟨_, rfl⟩
          rw [← hu] at hcell hadd
          rw [← hv] at hoc hadd
          rw [← hy] at hadd
          have HY := Lib.hid hy
          have HO := Lib.hid hrow
          have HFR := Lib.hid hfr
          have HJX := Lib.hid hjx
          clear hrow hfr hjx hu hv hy hk hj
          go_wp2
          go_still_tail 30, (by kernel_rfl)
          show wpList _ _ _ _ _ wr.drew
          go_wp2
          go_roundw
          case rel =>
            have hset := HO.out.drew.set j (accL G fo s x (max x s) + fo x) hjL
            rw [← HY.out] at hset
            have hnx : Row (wr.drew.setCell ⟨g', j, none⟩ (.float .f64 y)) g' L cp (fun j => accL G fo s (x + 1) (off + j)) := hset.ext (fun i hi => by
              have hjx := HJX.out
              rw [accL_step _ _ _ _ (by omega)]
              by_cases hij : (i : Int) = (j : Nat)
              · rw [if_pos (by omega), if_pos (by omega), show off + (i : Int) = max x s from by omega]
              · rw [if_neg (by omega), if_neg (by omega)])
            have hfn : Fr (fun b => b = g') w3 (wr.drew.setCell ⟨g', j, none⟩ (.float .f64 y)) := HFR.out.drew.setCell (p := ⟨g', j, none⟩) (fun _ => rfl) _
            exact ⟨x + 1, by go_num, by omega, by omega, by omega, hnx, hfn⟩
          case measure => simp [intOf]; omega
        · replace c2 := Int.not_lt.1 c2
          by_cases c3 : x = omx
          · have hsm := HSM.out
            subst c3
            obtain ⟨j, hj⟩ : ∃ j : Nat, x - off = (j : Int) := ⟨(x - off).toNat, by have := HB1.out; omega⟩
            have hjx : off + ((j : Nat) : Int) = max x s := by omega
            have hjL : j < L := by have := HB1.out; omega
            have hjL' : (j : Int) < (L : Int) := by omega
            obtain ⟨k, hk⟩ : ∃ k : Nat, x - offo = (k : Int) := ⟨(x - offo).toNat, by omega⟩
            have hkL : k < Lo := by omega
            have hkL' : (k : Int) < (Lo : Int) := by omega
            have hcell := hrow.cell j hjL
            have hfree := hrow.free j
            rw [hjx] at hcell
            have hoc := (HRO.out.fr hfr (fun h => HGG.out h)).cell k hkL
            rw [show offo + (k : Int) = x from by omega] at hoc
            have hadd := fun w : World => run_float_arith (P := Tryz.prog) w .add 30 .f64 _ _ _ (nf_add (accL G fo s x (max x s)) (fo x) (HSM.out x (max x s)))
            have i2 : IntKind.i64.wrap (x - offo) = (k : Int) := by rw [IntKind.wrap_i64]; omega
            have i3 : IntKind.i64.wrap (x + 1) = x + 1 := by rw [IntKind.wrap_i64]; omega
            have i1 : IntKind.i64.wrap (x - off) = (j : Int) := by rw [IntKind.wrap_i64]; omega
            obtain ⟨u, hu⟩ : ∃ u, u = nf (accL G fo s x (max x s)) := ⟨_, rfl⟩
            obtain ⟨v, hv⟩ : ∃ v, v = nf (fo x) := ⟨_, rfl⟩
            obtain ⟨y, hy⟩ : ∃ y, y = nf (accL G fo s x (max x s) + fo x) := ⟨_, rfl⟩
            rw [← hu] at hcell hadd
            rw [← hv] at hoc hadd
            rw [← hy] at hadd
            have HY := Lib.hid hy
            have HO := Lib.hid hrow
            have HFR := Lib.hid hfr
            have HJX := Lib.hid hjx
            clear hrow hfr hjx hu hv hy hk hj
            go_wp2
            go_still_tail 30, (by kernel_rfl)
            show wpList _ _ _ _ _ wr.drew
            go_wp2
            have hset := HO.out.drew.set j (accL G fo s x (max x s) + fo x) hjL
            rw [← HY.out] at hset
            have hnx : Row (wr.drew.setCell ⟨g', j, none⟩ (.float .f64 y)) g' L cp (fun j => accL G fo s (x + 1) (off + j)) := hset.ext (fun i hi => by
              have hjx := HJX.out
              rw [accL_step _ _ _ _ (by omega)]
              by_cases hij : (i : Int) = (j : Nat)
              · rw [if_pos (by omega), if_pos (by omega), show off + (i : Int) = max x s from by omega]
              · rw [if_neg (by omega), if_neg (by omega)])
            have hfn : Fr (fun b => b = g') w3 (wr.drew.setCell ⟨g', j, none⟩ (.float .f64 y)) := HFR.out.drew.setCell (p := ⟨g', j, none⟩) (fun _ => rfl) _
            obtain ⟨ww, hww⟩ : ∃ ww, ww = (wr.setCell ⟨g', j, none⟩ (.float .f64 y)).drew := ⟨_, rfl⟩
            rw [← hww]
            replace hnx : Row ww g' L cp (fun j => accL G fo s (x + 1) (off + j)) := by rw [hww]; exact hnx
            replace hfn : Fr (fun b => b = g') w3 ww := by rw [hww]; exact hfn
            clear hww hset d0 d1 d2 d3 d4 r0 r1 r2 r3 r4 bx0 hcell hfree hoc hadd HO HFR HY HJX
            obtain ⟨d0, d1, d2, d3, d4⟩ := (HD2.out.fr hfn HPG.out).cells
            obtain ⟨r0, r1, r2, r3, r4⟩ := (HDO.out.fr hfn (fun h => HRG.out h)).cells
            have bx0 := cell_of_one (hfn.heap HBX2.out (fun h => HBG.out h))
            have hadd := fun w : World => run_float_arith (P := Tryz.prog) w .add 30 .f64 _ _ _ (nf_add n no HSN.out)
            have f1 := (HD2.out.fr hfn HPG.out).free 1
            obtain ⟨c1, hc1⟩ : ∃ c1, c1 = nf n := ⟨_, rfl⟩
            obtain ⟨c2, hc2⟩ : ∃ c2, c2 = nf no := ⟨_, rfl⟩
            obtain ⟨c3, hc3⟩ : ∃ c3, c3 = nf (n + no) := ⟨_, rfl⟩
            rw [← hc1] at d1 hadd
            rw [← hc2] at r1 hadd
            rw [← hc3] at hadd
            have HC3 := Lib.hid hc3
            have HO := Lib.hid hnx
            have HFR := Lib.hid hfn
            clear hnx hfn hc1 hc2 hc3
            go_wp2
            go_still_tail 14, (by kernel_rfl)
            show wpList _ _ _ _ _ ww.drew
            go_wp2
            go_end0
            have hd9 := ((HD2.out.fr HFR.out HPG.out).drew).set1 (.float .f64 c3)
            have hr9 : Row (ww.drew.setCell ⟨p, 1, none⟩ (.float .f64 c3)) g' L cp (fun j => (fun i => G i + sqL fo s i) (off + j)) := by
              have h := (HO.out.drew.other (p := ⟨p, 1, none⟩) HPG.out (.float .f64 c3))
              rw [accL_end G fo s x HZO.out.2] at h
              exact h
            rw [HC3.out] at hd9 hr9
            refine ⟨g', L, cp, rfl, ⟨off, by rw [HC3.out]; exact hd9, by rw [HC3.out]; exact hr9, HB1.out.1, HB1.out.2.1, HB1.out.2.2.1, HB1.out.2.2.2⟩, HPG.out, HLL.out, ?_, HG.out⟩
            refine ((HF2.out.trans HFR.out.drew (fun _ _ h => h) (fun i hi h => ?_))).setCell (p := ⟨p, 1, none⟩) (fun _ => .inl rfl) _
            rcases HG.out with h2 | h2
            · right; rw [h2, h]
            · omega
          · have hxe : x = omx + 1 := by omega
            rw [hxe] at hrow
            have hadd := fun w : World => run_float_arith (P := Tryz.prog) w .add 30 .f64 _ _ _ (nf_add n no HSN.out)
            have f1 := (HD2.out.fr hfr HPG.out).free 1
            obtain ⟨c1, hc1⟩ : ∃ c1, c1 = nf n := ⟨_, rfl⟩
            obtain ⟨c2, hc2⟩ : ∃ c2, c2 = nf no := ⟨_, rfl⟩
            obtain ⟨c3, hc3⟩ : ∃ c3, c3 = nf (n + no) := ⟨_, rfl⟩
            rw [← hc1] at d1 hadd
            rw [← hc2] at r1 hadd
            rw [← hc3] at hadd
            have HC3 := Lib.hid hc3
            have HO := Lib.hid hrow
            have HFR := Lib.hid hfr
            clear hrow hfr hc1 hc2 hc3
            go_wp2
            go_still_tail 14, (by kernel_rfl)
            show wpList _ _ _ _ _ wr.drew
            go_wp2
            go_end0
            have hd9 := ((HD2.out.fr HFR.out HPG.out).drew).set1 (.float .f64 c3)
            have hr9 : Row (wr.drew.setCell ⟨p, 1, none⟩ (.float .f64 c3)) g' L cp (fun j => (fun i => G i + sqL fo s i) (off + j)) := by
              have h := (HO.out.drew.other (p := ⟨p, 1, none⟩) HPG.out (.float .f64 c3))
              rw [accL_end G fo s omx HZO.out.2] at h
              exact h
            rw [HC3.out] at hd9 hr9
            refine ⟨g', L, cp, rfl, ⟨off, by rw [HC3.out]; exact hd9, by rw [HC3.out]; exact hr9, HB1.out.1, HB1.out.2.1, HB1.out.2.2.1, HB1.out.2.2.2⟩, HPG.out, HLL.out, ?_, HG.out⟩
            refine ((HF2.out.trans HFR.out.drew (fun _ _ h => h) (fun i hi h => ?_))).setCell (p := ⟨p, 1, none⟩) (fun _ => .inl rfl) _
            rcases HG.out with h2 | h2
            · right; rw [h2, h]
            · omega

end Go.Proofs.YtnmbjalojgccmaaGreat
end
/-
  The merge of the collapsing stores, one more case. (Printed by gen_mergel.py.)
-/
section
namespace Go.Proofs.YtnmbjalojgccmaaGreat
open Go.RowKit

set_option maxRecDepth 100000 in
set_option maxHeartbeats 4000000 in
theorem mergeL_coreB (G fo : Int → Nat) (n no M : Nat) (mn mx s nb omn omx : Int) (p r go Lo cpo : Nat) (g : Option Nat) (rest resto : List Value) (w : World) (d3 : w.cell? ⟨p, 3, none⟩ = some (.int .i64 mn)) (d4 : w.cell? ⟨p, 4, none⟩ = some (.int .i64 mx)) (hp : p < w.heap.size)
   (hX : ∀ w2, Fr (fun _ => False) w w2 → Calls Tryz.prog 331 #[.pointer (some ⟨p, 0, none⟩), .int .i64 omn, .int .i64 omx] w2 fun e w' => ExtL G (.float .f64 (nf n)) M s nb p g rest 179 w2 e w')
   (hI : mn ≤ omn → omx ≤ mx → ∀ w2, Fr (fun _ => False) w w2 → ExtL G (.float .f64 (nf n)) M s nb p g rest 179 w2 (.returned (.tuple #[])) w2)
   (hoff : omn < s → s = nb - M + 1) (hsb : s ≤ nb) (hnb : omx ≤ nb) (hle : omn ≤ omx) (hlo : -10000 ≤ omn) (hhi : omx ≤ 10000) (hM5 : M ≤ 50000)
   (hdo : DenseOk fo (.float .f64 (nf no)) omn omx r go Lo cpo resto 179 w) (hz : (∀ i, i < omn → fo i = 0) ∧ ∀ i, omx < i → fo i = 0) (hno : 0 < no) (hsn : n + no < 9007199254740992) (hsm : ∀ x i, accL G fo s x i + fo x < 9007199254740992)
   (hrp : r ≠ p) (hrg : g ≠ some r) (hgp : go ≠ p) (hgg : g ≠ some go) (hgl : ∀ x, g = some x → x < w.heap.size) (k1 : mn ≤ omn) (k2 : mx < omx) :
    Calls Tryz.prog 328 #[.pointer (some ⟨p, 0, none⟩), .iface 136 (.pointer (some ⟨r, 0, none⟩))] w fun e w' => MergedL (fun i => G i + sqL fo s i) (n + no) M s nb p g rest 179 w e w' := by
  have hmf : ∀ (fn : Fn) (first cap : Array Value) (w : World), (Instr.makeFunc fn first cap).run Tryz.prog w = .ok (.func fn first cap) w := fun _ _ _ _ => rfl
  have hta := fun w => run_assert_same (P := Tryz.prog) 136 70 179 (.pointer (some ⟨r, 0, none⟩)) Tryz.underlying136 w
  obtain ⟨w1, hw1⟩ : ∃ w1, w1 = w.alloc (.cells #[.pointer (some ⟨p, 0, none⟩)] 136) := ⟨_, rfl⟩
  have hf01 : Fr (fun _ => False) w w1 := by rw [hw1]; exact (Fr.refl _ w).alloc _
  have hs1 : w1.heap.size = w.heap.size + 1 := by rw [hw1]; simp
  have hbx : w1.heap[w.heap.size]? = some (.cells #[.pointer (some ⟨p, 0, none⟩)] 136 (0, 0)) := by rw [hw1]; exact heap_alloc_new w _
  have hdo1 := hdo.fr hf01 (fun h => h) (fun h => h)
  obtain ⟨offo, hdo2, hro2, q1, q2, q3, q4⟩ := hdo1
  obtain ⟨off0, hdw, hrw, -⟩ := hdo
  have hrlt := hdw.lt
  have hglt := hrw.lt
  clear hdw hrw
  obtain ⟨r0, r1, r2, r3, r4⟩ := hdo2.cells
  have HEM : Calls Tryz.prog 205 #[.pointer (some ⟨r, 0, none⟩)] (w.alloc (.cells #[.pointer (some ⟨p, 0, none⟩)] 136)) fun e w' => e = .returned (.bool false) ∧ w' = w1 := by
    rw [← hw1]
    refine (isEmptyD_any r no (by omega) w1 r1).mono ?_
    rintro e w' ⟨rfl, rfl⟩
    exact ⟨by rw [show (no == 0) = false from by simp; omega], rfl⟩
  have e3 := hf01.cell d3 (fun h => h)
  have e4 := hf01.cell d4 (fun h => h)
  have bx0 := cell_of_one hbx
  have hM : ∀ w, (method 405 136 (.pointer (some ⟨r, 0, none⟩)) "IsEmpty").run Tryz.prog w = .ok (205, .pointer (some ⟨r, 0, none⟩)) w := toldL.mEmp r
  have hE : ∀ args w, (callFunc 205 args).run Tryz.prog w = .ok (.enter 205 args) w := toldL.eEmp
  have HDO1 := Lib.hid hdo2
  have HRO1 := Lib.hid hro2
  have HBX1 := Lib.hid hbx
  have HX := Lib.hid hX
  have HI := Lib.hid hI
  have HF01 := Lib.hid hf01
  have HW1 := Lib.hid hw1
  have HS1 := Lib.hid hs1
  have HZO := Lib.hid hz
  have HSM := Lib.hid hsm
  have HSN := Lib.hid hsn
  have HGP := Lib.hid hgp
  have HRP := Lib.hid hrp
  have HRG0 := Lib.hid hrg
  have HGG0 := Lib.hid hgg
  have HGL := Lib.hid hgl
  have HOFF := Lib.hid hoff
  clear hX hI hdo2 hro2 hbx hw1 hf01 d3 d4 r0 r1 r2 hz hsm hsn hgp hrp hrg hgg hgl hs1 hoff
  have g1 : decide (omn < mn) = false := by simpa using k1
  have g2 : decide (mx < omx) = true := by simpa using k2
  go_enter Tryz.func328, Tryz.ntmps328
  go_wp2_with (go_at_fn 205; (with_reducible refine HEM.mono ?_); rintro e w2 ⟨rfl, rfl⟩; clear HEM hM hE)
  go_quiet (fail)
  obtain ⟨w5, hw5⟩ : ∃ w5, w5 = w2.drewN nq := ⟨_, rfl⟩
  have HF12 := Lib.hid (show Fr (fun _ => False) w2 w5.drew by rw [hw5]; exact ((Fr.refl _ w2).drewN nq).drew)
  have HX2 := HX.out _ (HF01.out.trans HF12.out (fun _ _ h => h) (fun _ _ h => h.elim))
  have s3 : w5.cell? ⟨r, 3, none⟩ = some (.int .i64 omn) := by rw [hw5]; exact r3
  have s4 : w5.cell? ⟨r, 4, none⟩ = some (.int .i64 omx) := by rw [hw5]; exact r4
  have sx : w5.cell? ⟨w.heap.size, 0, none⟩ = some (.pointer (some ⟨p, 0, none⟩)) := by rw [hw5]; exact bx0
  rw [← hw5]
  clear hw5 r3 r4 bx0 e3 e4
  go_wp2
  go_still_tail 11, (by kernel_rfl)
  show wpList _ _ _ _ _ w5.drew
  go_wp2_with fail
  refine HX2.mono ?_
  intro e w3 hx
  have HE2 := Lib.hid hx
  obtain ⟨_, _, _, rfl, -⟩ := hx
  clear HX2 s3 s4 sx
  obtain ⟨g', L, cp, -, ⟨off, hd2, hr2, b1, b2, b3, b4⟩, hpg, hll, hf2, hg⟩ := HE2.out
  have hs2 := HF12.out.size
  have hs3 := hf2.size
  have hs1 := HS1.out
  have hgl := HGL.out
  have hf02 : Fr (fun b => b = p ∨ g = some b) w w3 := (HF01.out.trans HF12.out (fun _ _ h => h) (fun _ _ h => h.elim)).trans hf2 (fun _ _ h => h.elim) (fun _ _ h => h)
  have hnew : ∀ b, b < w2.heap.size → ¬ (g = some b) → b ≠ g' := fun b hb h h2 => by
    rcases hg with h3 | h3
    · exact h (by rw [h2]; exact h3)
    · omega
  have hrg := hnew r (by omega) HRG0.out
  have hgg := hnew go (by omega) HGG0.out
  have hbg := hnew w.heap.size (by omega) (fun h => by have := hgl _ h; omega)
  have hf13 : Fr (fun b => b = p ∨ g = some b) w2 w3 := HF12.out.trans hf2 (fun _ _ h => h.elim) (fun _ _ h => h)
  have hdo3 := HDO1.out.fr hf13 (fun h => h.elim HRP.out HRG0.out)
  have hro3 := HRO1.out.fr hf13 (fun h => h.elim HGP.out HGG0.out)
  have hbx3 := hf13.heap HBX1.out (fun h => h.elim (fun h => by omega) (fun h => by have := hgl _ h; omega))
  have HD2 := Lib.hid hd2
  have HR2 := Lib.hid hr2
  have HDO := Lib.hid hdo3
  have HRO := Lib.hid hro3
  have HBX2 := Lib.hid hbx3
  have HPG := Lib.hid hpg
  have HRG := Lib.hid hrg
  have HGG := Lib.hid hgg
  have HBG := Lib.hid hbg
  have HF2 := Lib.hid hf02
  have HG := Lib.hid (show g = some g' ∨ w.heap.size ≤ g' from hg.imp id (fun h => by omega))
  have HB1 := Lib.hid (And.intro b1 (And.intro b2 (And.intro b3 b4)))
  have hl5 : L ≤ 50000 := by omega
  have HLL := Lib.hid hll
  clear HE2 hf2 hf02 hf13 hdo3 hro3 hbx3 hnew hd2 hr2 hpg hrg hgg hbg hg hll hgl hs1 hs2 hs3 HX HI HF12 b1 b2 b3 b4
  obtain ⟨d0, d1, d2, d3, d4⟩ := HD2.out.cells
  obtain ⟨r0, r1, r2, r3, r4⟩ := HDO.out.cells
  have bx0 := cell_of_one HBX2.out
  go_wp2
  clear d0 d1 d2 d3 d4 r0 r1 r2 r3 r4 bx0
  go_loopw [6] (fun i wr => MLRel G fo s off omn omx g' L cp w3 wr i) (fun i _ => (omx + 1 - intOf i).toNat)
  case atStart => exact ⟨omn, rfl, Int.le_refl _, by omega, HR2.out.ext (fun j _ => by rw [accL_zero _ _ _ _ HZO.out.1]), Fr.refl _ _⟩
  case round =>
    obtain ⟨x, rfl, hx1, hx2, hrow, hfr⟩ := hrel
    obtain ⟨d0, d1, d2, d3, d4⟩ := (HD2.out.fr hfr HPG.out).cells
    obtain ⟨r0, r1, r2, r3, r4⟩ := (HDO.out.fr hfr (fun h => HRG.out h)).cells
    have bx0 := cell_of_one (hfr.heap HBX2.out (fun h => HBG.out h))
    by_cases c1 : x < s
    · by_cases c2 : x ≤ omx
      · have hos : off = s := by have := HOFF.out; have := HB1.out; have := HLL.out; omega
        have hjx : off + ((0 : Nat) : Int) = max x s := by omega
        have hjL : 0 < L := by have := HB1.out; omega
        have hjL' : (0 : Int) < (L : Int) := by omega
        obtain ⟨k, hk⟩ : ∃ k : Nat, x - offo = (k : Int) := ⟨(x - offo).toNat, by omega⟩
        have hkL : k < Lo := by omega
        have hkL' : (k : Int) < (Lo : Int) := by omega
        have hcell := hrow.cell 0 hjL
        have hfree := hrow.free 0
        rw [hjx] at hcell
        have hoc := (HRO.out.fr hfr (fun h => HGG.out h)).cell k hkL
        rw [show offo + (k : Int) = x from by omega] at hoc
        have hadd := fun w : World => run_float_arith (P := Tryz.prog) w .add 30 .f64 _ _ _ (nf_add (accL G fo s x (max x s)) (fo x) (HSM.out x (max x s)))
        have i2 : IntKind.i64.wrap (x - offo) = (k : Int) := by rw [IntKind.wrap_i64]; omega
        have i3 : IntKind.i64.wrap (x + 1) = x + 1 := by rw [IntKind.wrap_i64]; omega
        obtain ⟨u, hu⟩ : ∃ u, u = nf (accL G fo s x (max x s)) := ⟨_, rfl⟩
        obtain ⟨v, hv⟩ : ∃ v, v = nf (fo x) := ⟨_, rfl⟩
        obtain ⟨y, hy⟩ : ∃ y, y = nf (accL G fo s x (max x s) + fo x) := ⟨_, rfl⟩
        rw [← hu] at hcell hadd
        rw [← hv] at hoc hadd
        rw [← hy] at hadd
        have HY := Lib.hid hy
        have HO := Lib.hid hrow
        have HFR := Lib.hid hfr
        have HJX := Lib.hid hjx
        clear hrow hfr hjx hu hv hy hk
        go_wp2
        go_still_tail 23, (by kernel_rfl)
        show wpList _ _ _ _ _ wr.drew
        go_wp2
        go_roundw
        case rel =>
          have hset := HO.out.drew.set 0 (accL G fo s x (max x s) + fo x) hjL
          rw [← HY.out] at hset
          have hnx : Row (wr.drew.setCell ⟨g', 0, none⟩ (.float .f64 y)) g' L cp (fun j => accL G fo s (x + 1) (off + j)) := hset.ext (fun i hi => by
            have hjx := HJX.out
            rw [accL_step _ _ _ _ (by omega)]
            by_cases hij : (i : Int) = (0 : Nat)
            · rw [if_pos (by omega), if_pos (by omega), show off + (i : Int) = max x s from by omega]
            · rw [if_neg (by omega), if_neg (by omega)])
          have hfn : Fr (fun b => b = g') w3 (wr.drew.setCell ⟨g', 0, none⟩ (.float .f64 y)) := HFR.out.drew.setCell (p := ⟨g', 0, none⟩) (fun _ => rfl) _
          exact ⟨x + 1, by go_num, by omega, by omega, hnx, hfn⟩
        case measure => simp [intOf]; omega
      · obtain rfl : x = omx + 1 := by omega
        go_wp2
        clear d0 d1 d2 d3 d4 r0 r1 r2 r3 r4 bx0
        go_loopw [6] (fun i wr => MLRel3 G fo s off (omx + 1) g' L cp w3 wr i) (fun _ _ => 0)
        case atStart => exact ⟨rfl, hrow, hfr⟩
        case round =>
          clear hrow hfr
          obtain ⟨rfl, hrow, hfr⟩ := hrel
          obtain ⟨d0, d1, d2, d3, d4⟩ := (HD2.out.fr hfr HPG.out).cells
          obtain ⟨r0, r1, r2, r3, r4⟩ := (HDO.out.fr hfr (fun h => HRG.out h)).cells
          have bx0 := cell_of_one (hfr.heap HBX2.out (fun h => HBG.out h))
          have hadd := fun w : World => run_float_arith (P := Tryz.prog) w .add 30 .f64 _ _ _ (nf_add n no HSN.out)
          have f1 := (HD2.out.fr hfr HPG.out).free 1
          obtain ⟨c1, hc1⟩ : ∃ c1, c1 = nf n := ⟨_, rfl⟩
          obtain ⟨c2, hc2⟩ : ∃ c2, c2 = nf no := ⟨_, rfl⟩
          obtain ⟨c3, hc3⟩ : ∃ c3, c3 = nf (n + no) := ⟨_, rfl⟩
          rw [← hc1] at d1 hadd
          rw [← hc2] at r1 hadd
          rw [← hc3] at hadd
          have HC3 := Lib.hid hc3
          have HO := Lib.hid hrow
          have HFR := Lib.hid hfr
          clear hrow hfr hc1 hc2 hc3
          go_wp2
          go_still_tail 14, (by kernel_rfl)
          show wpList _ _ _ _ _ wr.drew
          go_wp2
          go_end0
          have hd9 := ((HD2.out.fr HFR.out HPG.out).drew).set1 (.float .f64 c3)
          have hr9 : Row (wr.drew.setCell ⟨p, 1, none⟩ (.float .f64 c3)) g' L cp (fun j => (fun i => G i + sqL fo s i) (off + j)) := by
            have h := (HO.out.drew.other (p := ⟨p, 1, none⟩) HPG.out (.float .f64 c3))
            rw [accL_end G fo s omx HZO.out.2] at h
            exact h
          rw [HC3.out] at hd9 hr9
          refine ⟨g', L, cp, rfl, ⟨off, by rw [HC3.out]; exact hd9, by rw [HC3.out]; exact hr9, HB1.out.1, HB1.out.2.1, HB1.out.2.2.1, HB1.out.2.2.2⟩, HPG.out, HLL.out, ?_, HG.out⟩
          refine ((HF2.out.trans HFR.out.drew (fun _ _ h => h) (fun i hi h => ?_))).setCell (p := ⟨p, 1, none⟩) (fun _ => .inl rfl) _
          rcases HG.out with h2 | h2
          · right; rw [h2, h]
          · omega
    · have hsx : s ≤ x ∨ x = omx + 1 := .inl (by omega)
      replace c1 := Int.not_lt.1 c1
      go_wp2
      clear d0 d1 d2 d3 d4 r0 r1 r2 r3 r4 bx0
      go_loopw [6] (fun i wr => MLRel2 G fo s off omn omx g' L cp w3 wr i) (fun i _ => (omx + 1 - intOf i).toNat)
      case atStart => exact ⟨x, rfl, hx1, hx2, hsx, hrow, hfr⟩
      case round =>
        clear hrow hfr hx1 hx2 hsx
        obtain ⟨x, rfl, hx1, hx2, hsx, hrow, hfr⟩ := hrel
        obtain ⟨d0, d1, d2, d3, d4⟩ := (HD2.out.fr hfr HPG.out).cells
        obtain ⟨r0, r1, r2, r3, r4⟩ := (HDO.out.fr hfr (fun h => HRG.out h)).cells
        have bx0 := cell_of_one (hfr.heap HBX2.out (fun h => HBG.out h))
        by_cases c2 : x < omx
        · obtain ⟨j, hj⟩ : ∃ j : Nat, x - off = (j : Int) := ⟨(x - off).toNat, by have := HB1.out; omega⟩
          have hjx : off + ((j : Nat) : Int) = max x s := by omega
          have hjL : j < L := by have := HB1.out; omega
          have hjL' : (j : Int) < (L : Int) := by omega
          obtain ⟨k, hk⟩ : ∃ k : Nat, x - offo = (k : Int) := ⟨(x - offo).toNat, by omega⟩
          have hkL : k < Lo := by omega
          have hkL' : (k : Int) < (Lo : Int) := by omega
          have hcell := hrow.cell j hjL
          have hfree := hrow.free j
          rw [hjx] at hcell
          have hoc := (HRO.out.fr hfr (fun h => HGG.out h)).cell k hkL
          rw [show offo + (k : Int) = x from by omega] at hoc
          have hadd := fun w : World => run_float_arith (P := Tryz.prog) w .add 30 .f64 _ _ _ (nf_add (accL G fo s x (max x s)) (fo x) (HSM.out x (max x s)))
          have i2 : IntKind.i64.wrap (x - offo) = (k : Int) := by rw [IntKind.wrap_i64]; omega
          have i3 : IntKind.i64.wrap (x + 1) = x + 1 := by rw [IntKind.wrap_i64]; omega
          have i1 : IntKind.i64.wrap (x - off) = (j : Int) := by rw [IntKind.wrap_i64]; omega
          obtain ⟨u, hu⟩ : ∃ u, u = nf (accL G fo s x (max x s)) := ⟨_, rfl⟩
          obtain ⟨v, hv⟩ : ∃ v, v = nf (fo x) := ⟨_, rfl⟩
          obtain ⟨y, hy⟩ : ∃ y, y = nf (accL G fo s x (max x s) + fo x) := ⟨_, rfl⟩
          rw [← hu] at hcell hadd
          rw [← hv] at hoc hadd
          rw [← hy] at hadd
          have HY := Lib.hid hy
          have HO := Lib.hid hrow
          have HFR := Lib.hid hfr
          have HJX := Lib.hid hjx
          clear hrow hfr hjx hu hv hy hk hj
          go_wp2
          go_still_tail 30, (by kernel_rfl)
          show wpList _ _ _ _ _ wr.drew
          go_wp2
          go_roundw
          case rel =>
            have hset := HO.out.drew.set j (accL G fo s x (max x s) + fo x) hjL
            rw [← HY.out] at hset
            have hnx : Row (wr.drew.setCell ⟨g', j, none⟩ (.float .f64 y)) g' L cp (fun j => accL G fo s (x + 1) (off + j)) := hset.ext (fun i hi => by
              have hjx := HJX.out
              rw [accL_step _ _ _ _ (by omega)]
              by_cases hij : (i : Int) = (j : Nat)
              · rw [if_pos (by omega), if_pos (by omega), show off + (i : Int) = max x s from by omega]
              · rw [if_neg (by omega), if_neg (by omega)])
            have hfn : Fr (fun b => b = g') w3 (wr.drew.setCell ⟨g', j, none⟩ (.float .f64 y)) := HFR.out.drew.setCell (p := ⟨g', j, none⟩) (fun _ => rfl) _
            exact ⟨x + 1, by go_num, by omega, by omega, by omega, hnx, hfn⟩
          case measure => simp [intOf]; omega
        · replace c2 := Int.not_lt.1 c2
          by_cases c3 : x = omx
          · have hsm := HSM.out
            subst c3
            obtain ⟨j, hj⟩ : ∃ j : Nat, x - off = (j : Int) := ⟨(x - off).toNat, by have := HB1.out; omega⟩
            have hjx : off + ((j : Nat) : Int) = max x s := by omega
            have hjL : j < L := by have := HB1.out; omega
            have hjL' : (j : Int) < (L : Int) := by omega
            obtain ⟨k, hk⟩ : ∃ k : Nat, x - offo = (k : Int) := ⟨(x - offo).toNat, by omega⟩
            have hkL : k < Lo := by omega
            have hkL' : (k : Int) < (Lo : Int) := by omega
            have hcell := hrow.cell j hjL
            have hfree := hrow.free j
            rw [hjx] at hcell
            have hoc := (HRO.out.fr hfr (fun h => HGG.out h)).cell k hkL
            rw [show offo + (k : Int) = x from by omega] at hoc
            have hadd := fun w : World => run_float_arith (P := Tryz.prog) w .add 30 .f64 _ _ _ (nf_add (accL G fo s x (max x s)) (fo x) (HSM.out x (max x s)))
            have i2 : IntKind.i64.wrap (x - offo) = (k : Int) := by rw [IntKind.wrap_i64]; omega
            have i3 : IntKind.i64.wrap (x + 1) = x + 1 := by rw [IntKind.wrap_i64]; omega
            have i1 : IntKind.i64.wrap (x - off) = (j : Int) := by rw [IntKind.wrap_i64]; omega
            obtain ⟨u, hu⟩ : ∃ u, u = nf (accL G fo s x (max x s)) := ⟨_, rfl⟩
            obtain ⟨v, hv⟩ : ∃ v, v = nf (fo x) := ⟨_, rfl⟩
            obtain ⟨y, hy⟩ : ∃ y, y = nf (accL G fo s x (max x s) + fo x) := ⟨_, rfl⟩
            rw [← hu] at hcell hadd
            rw [← hv] at hoc hadd
            rw [← hy] at hadd
            have HY := Lib.hid hy
            have HO := Lib.hid hrow
            have HFR := Lib.hid hfr
            have HJX := Lib.hid hjx
            clear hrow hfr hjx hu hv hy hk hj
            go_wp2
            go_still_tail 30, (by kernel_rfl)
            show wpList _ _ _ _ _ wr.drew
            go_wp2
            have hset := HO.out.drew.set j (accL G fo s x (max x s) + fo x) hjL
            rw [← HY.out] at hset
            have hnx : Row (wr.drew.setCell ⟨g', j, none⟩ (.float .f64 y)) g' L cp (fun j => accL G fo s (x + 1) (off + j)) := hset.ext (fun i hi => by
              have hjx := HJX.out
              rw [accL_step _ _ _ _ (by omega)]
              by_cases hij : (i : Int) = (j : Nat)
              · rw [if_pos (by omega), if_pos (by omega), show off + (i : Int) = max x s from by omega]
              · rw [if_neg (by omega), if_neg (by omega)])
            have hfn : Fr (fun b => b = g') w3 (wr.drew.setCell ⟨g', j, none⟩ (.float .f64 y)) := HFR.out.drew.setCell (p := ⟨g', j, none⟩) (fun _ => rfl) _
            obtain ⟨ww, hww⟩ : ∃ ww, ww = (wr.setCell ⟨g', j, none⟩ (.float .f64 y)).drew := ⟨_, rfl⟩
            rw [← hww]
            replace hnx : Row ww g' L cp (fun j => accL G fo s (x + 1) (off + j)) := by rw [hww]; exact hnx
            replace hfn : Fr (fun b => b = g') w3 ww := by rw [hww]; exact hfn
            clear hww hset d0 d1 d2 d3 d4 r0 r1 r2 r3 r4 bx0 hcell hfree hoc hadd HO HFR HY HJX
            obtain ⟨d0, d1, d2, d3, d4⟩ := (HD2.out.fr hfn HPG.out).cells
            obtain ⟨r0, r1, r2, r3, r4⟩ := (HDO.out.fr hfn (fun h => HRG.out h)).cells
            have bx0 := cell_of_one (hfn.heap HBX2.out (fun h => HBG.out h))
            have hadd := fun w : World => run_float_arith (P := Tryz.prog) w .add 30 .f64 _ _ _ (nf_add n no HSN.out)
            have f1 := (HD2.out.fr hfn HPG.out).free 1
            obtain ⟨c1, hc1⟩ : ∃ c1, c1 = nf n := ⟨_, rfl⟩
            obtain ⟨c2, hc2⟩ : ∃ c2, c2 = nf no := ⟨_, rfl⟩
            obtain ⟨c3, hc3⟩ : ∃ c3, c3 = nf (n + no) := ⟨_, rfl⟩
            rw [← hc1] at d1 hadd
            rw [← hc2] at r1 hadd
            rw [← hc3] at hadd
            have HC3 := Lib.hid hc3
            have HO := Lib.hid hnx
            have HFR := Lib.hid hfn
            clear hnx hfn hc1 hc2 hc3
            go_wp2
            go_still_tail 14, (by kernel_rfl)
            show wpList _ _ _ _ _ ww.drew
            go_wp2
            go_end0
            have hd9 := ((HD2.out.fr HFR.out HPG.out).drew).set1 (.float .f64 c3)
            have hr9 : Row (ww.drew.setCell ⟨p, 1, none⟩ (.float .f64 c3)) g' L cp (fun j => (fun i => G i + sqL fo s i) (off + j)) := by
              have h := (HO.out.drew.other (p := ⟨p, 1, none⟩) HPG.out (.float .f64 c3))
              rw [accL_end G fo s x HZO.out.2] at h
              exact h
            rw [HC3.out] at hd9 hr9
            refine ⟨g', L, cp, rfl, ⟨off, by rw [HC3.out]; exact hd9, by rw [HC3.out]; exact hr9, HB1.out.1, HB1.out.2.1, HB1.out.2.2.1, HB1.out.2.2.2⟩, HPG.out, HLL.out, ?_, HG.out⟩
            refine ((HF2.out.trans HFR.out.drew (fun _ _ h => h) (fun i hi h => ?_))).setCell (p := ⟨p, 1, none⟩) (fun _ => .inl rfl) _
            rcases HG.out with h2 | h2
            · right; rw [h2, h]
            · omega
          · have hxe : x = omx + 1 := by omega
            rw [hxe] at hrow
            have hadd := fun w : World => run_float_arith (P := Tryz.prog) w .add 30 .f64 _ _ _ (nf_add n no HSN.out)
            have f1 := (HD2.out.fr hfr HPG.out).free 1
            obtain ⟨c1, hc1⟩ : ∃ c1, c1 = nf n := ⟨_, rfl⟩
            obtain ⟨c2, hc2⟩ : ∃ c2, c2 = nf no := ⟨_, rfl⟩
            obtain ⟨c3, hc3⟩ : ∃ c3, c3 = nf (n + no) := ⟨_, rfl⟩
            rw [← hc1] at d1 hadd
            rw [← hc2] at r1 hadd
            rw [← hc3] at hadd
            have HC3 := Lib.hid hc3
            have HO := Lib.hid hrow
            have HFR := Lib.hid hfr
            clear hrow hfr hc1 hc2 hc3
            go_wp2
            go_still_tail 14, (by kernel_rfl)
            show wpList _ _ _ _ _ wr.drew
            go_wp2
            go_end0
            have hd9 := ((HD2.out.fr HFR.out HPG.out).drew).set1 (.float .f64 c3)
            have hr9 : Row (wr.drew.setCell ⟨p, 1, none⟩ (.float .f64 c3)) g' L cp (fun j => (fun i => G i + sqL fo s i) (off + j)) := by
              have h := (HO.out.drew.other (p := ⟨p, 1, none⟩) HPG.out (.float .f64 c3))
              rw [accL_end G fo s omx HZO.out.2] at h
              exact h
            rw [HC3.out] at hd9 hr9
            refine ⟨g', L, cp, rfl, ⟨off, by rw [HC3.out]; exact hd9, by rw [HC3.out]; exact hr9, HB1.out.1, HB1.out.2.1, HB1.out.2.2.1, HB1.out.2.2.2⟩, HPG.out, HLL.out, ?_, HG.out⟩
            refine ((HF2.out.trans HFR.out.drew (fun _ _ h => h) (fun i hi h => ?_))).setCell (p := ⟨p, 1, none⟩) (fun _ => .inl rfl) _
            rcases HG.out with h2 | h2
            · right; rw [h2, h]
            · omega

end Go.Proofs.YtnmbjalojgccmaaGreat
end
/-
  The merge of the collapsing stores, one more case. (Printed by gen_mergel.py.)
-/
section
namespace Go.Proofs.YtnmbjalojgccmaaGreat
open Go.RowKit

theorem mergeL_core (G fo : Int → Nat) (n no M : Nat) (mn mx s nb omn omx : Int) (p r go Lo cpo : Nat) (g : Option Nat) (rest resto : List Value) (w : World) (d3 : w.cell? ⟨p, 3, none⟩ = some (.int .i64 mn)) (d4 : w.cell? ⟨p, 4, none⟩ = some (.int .i64 mx)) (hp : p < w.heap.size)
   (hX : ∀ w2, Fr (fun _ => False) w w2 → Calls Tryz.prog 331 #[.pointer (some ⟨p, 0, none⟩), .int .i64 omn, .int .i64 omx] w2 fun e w' => ExtL G (.float .f64 (nf n)) M s nb p g rest 179 w2 e w')
   (hI : mn ≤ omn → omx ≤ mx → ∀ w2, Fr (fun _ => False) w w2 → ExtL G (.float .f64 (nf n)) M s nb p g rest 179 w2 (.returned (.tuple #[])) w2)
   (hoff : omn < s → s = nb - M + 1) (hsb : s ≤ nb) (hnb : omx ≤ nb) (hle : omn ≤ omx) (hlo : -10000 ≤ omn) (hhi : omx ≤ 10000) (hM5 : M ≤ 50000)
   (hdo : DenseOk fo (.float .f64 (nf no)) omn omx r go Lo cpo resto 179 w) (hz : (∀ i, i < omn → fo i = 0) ∧ ∀ i, omx < i → fo i = 0) (hno : 0 < no) (hsn : n + no < 9007199254740992) (hsm : ∀ x i, accL G fo s x i + fo x < 9007199254740992)
   (hrp : r ≠ p) (hrg : g ≠ some r) (hgp : go ≠ p) (hgg : g ≠ some go) (hgl : ∀ x, g = some x → x < w.heap.size) :
    Calls Tryz.prog 328 #[.pointer (some ⟨p, 0, none⟩), .iface 136 (.pointer (some ⟨r, 0, none⟩))] w fun e w' => MergedL (fun i => G i + sqL fo s i) (n + no) M s nb p g rest 179 w e w' := by
  by_cases k1 : omn < mn
  · exact mergeL_coreA G fo n no M mn mx s nb omn omx p r go Lo cpo g rest resto w d3 d4 hp hX hI hoff hsb hnb hle hlo hhi hM5 hdo hz hno hsn hsm hrp hrg hgp hgg hgl k1
  · by_cases k2 : mx < omx
    · exact mergeL_coreB G fo n no M mn mx s nb omn omx p r go Lo cpo g rest resto w d3 d4 hp hX hI hoff hsb hnb hle hlo hhi hM5 hdo hz hno hsn hsm hrp hrg hgp hgg hgl (by omega) k2
    · exact mergeL_coreC G fo n no M mn mx s nb omn omx p r go Lo cpo g rest resto w d3 d4 hp hX hI hoff hsb hnb hle hlo hhi hM5 hdo hz hno hsn hsm hrp hrg hgp hgg hgl (by omega) (by omega)
end Go.Proofs.YtnmbjalojgccmaaGreat
end
/-
  Of one kind: a store that collapses its lowest bins.
-/
section
namespace Go.Proofs.YtnmbjalojgccmaaGreat
open Go.RowKit

theorem sqL_plus (a b : Int → Nat) (lo : Int) : sqL (fun i => a i + b i) lo = fun i => sqL a lo i + sqL b lo i := by
  funext i
  unfold sqL
  rw [cum_plus]
  split
  · rfl
  · split <;> rfl
theorem tot2_upTo (f : Int → Nat) (x : Int) : tot2 (upTo f x) ≤ tot2 f := by
  have h : f = fun i => upTo f x i + (f i - upTo f x i) := by
    funext i
    show f i = (if i < x then f i else 0) + (f i - if i < x then f i else 0)
    split <;> omega
  have h2 : tot2 f = tot2 (upTo f x) + tot2 (fun i => f i - upTo f x i) := by
    conv => lhs; rw [h]
    exact cum_plus _ _ _
  omega
theorem sqL_le_tot {f : Int → Nat} (hz : ∀ i, i < -10000 ∨ 10000 < i → f i = 0) {s : Int} (h1 : -10000 ≤ s) (h2 : s ≤ 10000) (i : Int) : sqL f s i ≤ tot2 f := by
  by_cases c : -10000 ≤ i ∧ i ≤ 10000
  · have := one_le_tot (sqL f s) i c.1 c.2
    rw [tot2_sqL f s h1 h2] at this; exact this
  · unfold sqL
    split
    · omega
    · split
      · omega
      · rw [hz i (by omega)]; omega
/-- Of the lowest index with a count: there is a count at it or at what it is put to. -/
theorem sqL_pos {f : Int → Nat} {i s : Int} (h0 : 0 < f i) (h1 : -10000 ≤ i) (h2 : i ≤ s) : 0 < sqL f s s := by
  unfold sqL
  rw [if_neg (by omega), if_pos rfl]
  have e1 := cum_succ f i h1
  have e2 := cum_mono f (i + 1) (s + 1) (by omega)
  omega
theorem sqL_top {f : Int → Nat} {lo i : Int} (h0 : 0 < f i) (h1 : -10000 ≤ i) (h2 : lo ≤ i) : 0 < sqL f lo i := by
  by_cases h : i = lo
  · subst h; exact sqL_pos h0 h1 (Int.le_refl _)
  · unfold sqL
    rw [if_neg (by omega), if_neg h]; exact h0

/-- What is in the row behind the merge. -/
theorem merged_rowL {F Fo A B : Int → Nat} {lo0 lo na s omn : Int} (hA : ∀ i, i < -10000 → A i = 0) (hF : F = sqL A lo0) (hlo : lo0 ≤ lo) (hB : Fo = B) (hs : s = max na lo) (hz : ∀ i, i < omn → Fo i = 0) (hna : na ≤ omn) (hm : -10000 ≤ na) :
    (fun i => sqL F lo i + sqL Fo s i) = sqL (fun i => A i + B i) lo := by
  rw [sqL_plus, hF, sqL_sqL2 hA hlo, ← hB]
  have e : sqL Fo s = sqL Fo lo := by
    by_cases c : na ≤ lo
    · rw [hs, show max na lo = lo from by omega]
    · rw [hs, show max na lo = na from by omega, sqL_none Fo na (fun i hi => hz i (by omega)) (fun i hi => hz i (by omega)), sqL_none Fo lo (fun i hi => hz i (by omega)) (fun i hi => hz i (by omega))]
  rw [e]

theorem mergeLL_any (most om : Int) (xs ys : Bins) (S R : Nat → Prop) (p r : Nat) (w : World) (h : (kindL).St most xs S p w) (ho : (kindL).St om ys R r w) (hd : ∀ b, S b → ¬ R b) (hx : xs ≠ []) (hy : ys ≠ []) (hfo : Few 3 om ys) (hf : Fits2 3 most xs (keptB 3 om ys)) :
    Calls Tryz.prog 328 #[.pointer (some ⟨p, 0, none⟩), .iface 136 (.pointer (some ⟨r, 0, none⟩))] w fun e w' => MergedTo kindL kindL most om xs ys S R p r w e w' := by
  obtain ⟨ks, hks⟩ : ∃ ks, ks = keptB 3 om ys := ⟨_, rfl⟩
  have hkt : tot ks = tot ys := by rw [hks]; exact kept_tot 3 om ys
  have hO : ∀ (w' : World) (U : Nat → Prop), Fr U w w' → (∀ b, R b → ¬ U b) → StL om ys R r w' := fun w' U hfr hn => (kindL).fr om ys R r U w w' ho hfr (fun k hk => hn k hk)
  rw [← hks] at hf
  have htt := hf.tot
  have hxi := hf.inR
  have hyi := hfo.inR
  have hki := hf.inR2
  obtain ⟨m, rfl, hm1, hm2, h⟩ := h
  obtain ⟨mo, rfl, hmo1, hmo2, ho⟩ := ho
  rcases h with ⟨h1, _, _⟩ | ⟨col, mn, mx, g, L, cp, h1, htop, hmx, hmn, hS⟩
  · exact absurd h1 hx
  rcases ho with ⟨g1, _, _⟩ | ⟨colo, omn, omx, go, Lo, cpo, g1, gtop, gmx, gmn, gS⟩
  · exact absurd g1 hy
  have hkc : cntB ks = sqL (cntB ys) (omx - mo + 1) := by rw [hks]; exact cnt_kept3 hyi hfo.pos gmx gtop
  have hall : InR (xs ++ ks) := InR.append hxi hki
  have hta : tot (xs ++ ks) = tot xs + tot ys := by rw [tot_append, hkt]
  have hcc : cntB (xs ++ ks) = fun i => cntB xs i + cntB ks i := funext (cntB_append xs ks)
  have hzl : ∀ j, j < -10000 → cntB xs j = 0 := fun j hj => cntB_inR hxi j (.inl hj)
  obtain ⟨F, hF⟩ : ∃ F, F = sqL (cntB xs) (mx - m + 1) := ⟨_, rfl⟩
  obtain ⟨Fo, hFo⟩ : ∃ Fo, Fo = sqL (cntB ys) (omx - mo + 1) := ⟨_, rfl⟩
  rw [← hF] at h1 hmn
  rw [← hFo] at g1 gmn hkc
  obtain ⟨na, hna⟩ : ∃ na, na = min omn mn := ⟨_, rfl⟩
  obtain ⟨nb, hnb⟩ : ∃ nb, nb = max omx mx := ⟨_, rfl⟩
  obtain ⟨lo, hlo⟩ : ∃ lo, lo = nb - (m : Int) + 1 := ⟨_, rfl⟩
  obtain ⟨s, hs⟩ : ∃ s, s = max na lo := ⟨_, rfl⟩
  have l1 := h1.lo
  have l2 := h1.hi
  have l3 := g1.lo
  have l4 := g1.hi
  have l5 := h1.le
  have l6 := g1.le
  have gz := g1.zero
  have hz := h1.zero
  have hrow : (fun i => sqL F lo i + sqL Fo s i) = sqL (cntB (xs ++ ks)) lo := by
    rw [hcc]
    exact merged_rowL hzl hF (by omega) hkc.symm hs (fun i hi => gz i (.inl hi)) (by omega) (by omega)
  have hFot : tot2 Fo = tot ys := by rw [hFo, tot2_sqL2 (fun j hj => cntB_inR hyi j (.inl hj)) (by omega), tot2_cnt hyi]
  have hFt : tot2 F = tot xs := by rw [hF, tot2_sqL2 hzl (by omega), tot2_cnt hxi]
  have hFz : ∀ i, i < -10000 ∨ 10000 < i → F i = 0 := fun i hi => hz i (by omega)
  have hFoz : ∀ i, i < -10000 ∨ 10000 < i → Fo i = 0 := fun i hi => gz i (by omega)
  have hsm : ∀ x i, accL (sqL F lo) Fo s x i + Fo x < 9007199254740992 := fun x i => by
    have e1 : sqL F lo i ≤ tot xs := by
      by_cases c : -10000 ≤ lo
      · rw [← hFt]; exact sqL_le_tot hFz c (by omega) i
      · rw [sqL_none F lo (fun i hi => hFz i (by omega)) (fun i hi => hFz i (by omega))]
        by_cases c : -10000 ≤ i ∧ i ≤ 10000
        · rw [← hFt]; exact one_le_tot F i c.1 c.2
        · rw [hFz i (by omega)]; omega
    have e2 : sqL (upTo Fo x) s i ≤ tot ys := by
      have := sqL_le_tot (f := upTo Fo x) (fun i hi => by show (if i < x then Fo i else 0) = 0; rw [hFoz i hi]; split <;> rfl) (s := s) (by omega) (by omega) i
      have := tot2_upTo Fo x
      omega
    have e3 : Fo x ≤ tot ys := by
      by_cases c : -10000 ≤ x ∧ x ≤ 10000
      · rw [← hFot]; exact one_le_tot Fo x c.1 c.2
      · rw [hFoz x (by omega)]; omega
    show sqL F lo i + sqL (upTo Fo x) s i + Fo x < _
    omega
  have hpS : S p := (hS p).2 (.inl rfl)
  have hgS : S g := (hS g).2 (.inr rfl)
  have hrR : R r := (gS r).2 (.inl rfl)
  have hgR : R go := (gS go).2 (.inr rfl)
  obtain ⟨off, hdd, hrw, o1, o2, o3, o4⟩ := id h1.ok
  have hlen := h1.len
  have h1f : ∀ w2, Fr (fun _ => False) w w2 → LowPre F (tot xs) m col mn mx p g L cp 179 w2 := fun w2 hfr => { h1 with ok := h1.ok.fr hfr (fun h => h) (fun h => h) }
  have HH := mergeL_core (sqL F lo) Fo (tot xs) (tot ys) m mn mx s nb omn omx p r go Lo cpo (some g) (lrest m (col || decide ((m : Int) < nb - na + 1))) (lrest mo colo) w hdd.cells.2.2.2.1 hdd.cells.2.2.2.2 hdd.lt
    (fun w2 hfr => by rw [hs]; exact extendLF_any F (tot xs) m col omn omx mn mx na nb lo p g L cp 179 w2 (h1f w2 hfr) l3 l4 hna hnb hlo)
    (fun k1 k2 w2 hfr => by
      rw [hs]
      exact AdjustedL.of_in (L := L) (cp := cp) (by rw [show na = mn from by omega, show nb = mx from by omega]; exact (h1f w2 hfr).ok) h1.ne hlen (Fr.refl _ _) (fun i hi => hz i (.inl (by omega))) (by omega) (by omega) hlo)
    (by omega) (by omega) (by omega) l6 l3 l4 (by omega) g1.ok ⟨fun i hi => gz i (.inl hi), fun i hi => gz i (.inr hi)⟩ g1.pos (by omega) hsm
    (fun h => hd p hpS (by rw [← h]; exact hrR)) (fun h => hd g hgS (by rw [Option.some.inj h]; exact hrR)) (fun h => hd p hpS (by rw [← h]; exact hgR)) (fun h => hd g hgS (by rw [Option.some.inj h]; exact hgR)) (fun x h => by rw [← Option.some.inj h]; exact hrw.lt)
  refine HH.mono ?_
  rintro e w' ⟨g', L', cp', rfl, hok, hpg, hL, hfr, hg⟩
  rw [hrow] at hok
  have hfS : Fr S w w' := hfr.mono (fun k _ hk => hk.elim (fun h => (hS k).2 (.inl h)) (fun h => (hS k).2 (.inr (Option.some.inj h).symm)))
  have hat : ∀ i, sqL (cntB (xs ++ ks)) lo i = sqL F lo i + sqL Fo s i := fun i => (congrFun hrow i).symm
  have hFon : 0 < Fo omx := by rw [hFo]; exact sqL_top gmx (by omega) (by omega)
  have hsq : ∀ (f : Int → Nat) (lo i : Int), sqL f lo i = if i < lo then 0 else if i = lo then cum f (lo + 1) else f i := fun _ _ _ => rfl
  have hsn : na ≤ lo ∨ (∀ i, sqL F lo i = F i) := by
    by_cases c : na ≤ lo
    · exact .inl c
    · right
      rw [sqL_none F lo (fun i hi => hz i (by omega)) (fun i hi => hz i (by omega))]
      exact fun _ => rfl
  rw [hlo] at hok
  refine ⟨rfl, hO w' S hfS (fun b hb hs => hd b hs hb), fun k => k = p ∨ k = g', ⟨m, rfl, hm1, hm2, .inr ⟨_, s, nb, g', L', cp', ⟨by rw [← hks, hta]; exact hok, hpg, fun i hi => ?_, by omega, by rw [← hks, hta]; have := h1.pos; omega, by rw [← hks, hta]; omega, ?_, by omega, by omega, hL, hm1, hm2, fun e => ?_⟩, fun i hi => ?_, ?_, ?_, fun k => Iff.rfl⟩⟩, hfS.mono (fun _ _ h => .inl h), fun k hk => ?_⟩
  · rw [← hks, ← hlo, hat]
    rcases hi with hi | hi
    · have e2 : sqL Fo s i = 0 := by rw [hsq, if_pos hi]
      have e1 : sqL F lo i = 0 := by
        rcases hsn with c | c
        · rw [hsq, if_pos (by omega)]
        · rw [c]; by_cases c2 : i < na
          · exact hz i (.inl (by omega))
          · have : na ≤ lo := by omega
            rw [← c, hsq, if_pos (by omega)]
      omega
    · have e2 : sqL Fo s i = 0 := by rw [hsq, if_neg (by omega), if_neg (by omega)]; exact gz i (.inr (by omega))
      have e1 : sqL F lo i = 0 := by rw [hsq, if_neg (by omega), if_neg (by omega)]; exact hz i (.inr (by omega))
      omega
  · rw [← hks, ← hlo, tot2_sqL2 (fun j hj => cntB_inR hall j (.inl hj)) (by omega), tot2_cnt hall]
  · rcases Bool.or_eq_true_iff.1 e with e | e
    · have := h1.full e; omega
    · have := of_decide_eq_true e; omega
  · rw [← hks, hcc]
    show cntB xs i + cntB ks i = 0
    rw [htop i (by omega), hkc, gz i (.inr (by omega))]
  · rw [← hks, hcc]
    show 0 < cntB xs nb + cntB ks nb
    rw [hkc]
    by_cases c : mx ≤ omx
    · rw [show nb = omx from by omega]; omega
    · rw [show nb = mx from by omega]; omega
  · rw [← hks, ← hlo, hat]
    by_cases c : na ≤ lo
    · have e : s = lo := by omega
      rw [e]
      by_cases c2 : omn ≤ mn
      · have := sqL_pos (f := Fo) gmn l3 (show omn ≤ lo by omega)
        omega
      · have := sqL_pos (f := F) hmn l1 (show mn ≤ lo by omega)
        omega
    · have e : s = na := by omega
      rw [e]
      by_cases c2 : omn ≤ mn
      · have : 0 < sqL Fo na na := by rw [show na = omn from by omega]; exact sqL_pos gmn l3 (Int.le_refl _)
        omega
      · have e5 := (hsn.resolve_left c) na
        rw [show na = mn from by omega] at e5 ⊢
        omega
  · rcases hk with hk | hk
    · exact .inl ((hS k).2 (.inl hk))
    · rcases hg with hg | hg
      · exact .inl ((hS k).2 (.inr (by rw [hk]; exact (Option.some.inj hg).symm)))
      · right; omega
end Go.Proofs.YtnmbjalojgccmaaGreat
end
