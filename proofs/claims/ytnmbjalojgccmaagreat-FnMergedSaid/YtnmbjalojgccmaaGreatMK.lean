/-
  A store that collapses its highest bins merged into one of its kind. (Printed by gen_mergeh.py.)
-/
import Derived.Test.YtnmbjalojgccmaaGreatMI
section
namespace Go.Proofs.YtnmbjalojgccmaaGreat
open Go.RowKit

/-- The counts above x. -/
def downTo (f : Int → Nat) (x : Int) : Int → Nat := fun j => if x < j then f j else 0
/-- The row where the source's counts above x are in. -/
def accH (G f : Int → Nat) (s x : Int) : Int → Nat := fun i => G i + sqH (downTo f x) s i
theorem downTo_step (f : Int → Nat) (x : Int) : downTo f (x - 1) = addAt (downTo f x) x (f x) := by
  funext j
  show (if x - 1 < j then f j else 0) = if j = x then (if x < j then f j else 0) + f x else (if x < j then f j else 0)
  by_cases h : j = x
  · subst h; rw [if_pos (by omega), if_pos rfl, if_neg (by omega), Nat.zero_add]
  · rw [if_neg h]
    by_cases h2 : x < j
    · rw [if_pos h2, if_pos (by omega)]
    · rw [if_neg h2, if_neg (by omega)]
theorem accH_step (G f : Int → Nat) (s x : Int) (h : -10000 ≤ x) (h2 : x ≤ 10000) (hs : s ≤ 10000) (i : Int) : accH G f s (x - 1) i = if i = min x s then accH G f s x i + f x else accH G f s x i := by
  unfold accH
  rw [downTo_step, ← sqH_addAt _ _ _ _ h h2 hs]
  show G i + (if i = min x s then sqH (downTo f x) s i + f x else sqH (downTo f x) s i) = _
  split <;> omega
theorem accH_zero (G f : Int → Nat) (s x : Int) (hz : ∀ i, x < i → f i = 0) : accH G f s x = G := by
  have h : downTo f x = fun _ => 0 := by
    funext j
    show (if x < j then f j else 0) = 0
    split
    · exact hz j ‹_›
    · rfl
  have h2 : ∀ i, sqH (fun _ => 0) s i = 0 := fun i => by
    show (if s < i then 0 else if i = s then tot2 (fun _ => 0) - cum (fun _ => 0) s else 0) = 0
    have : tot2 (fun _ : Int => 0) = 0 := cum_none _ _ (fun _ _ => rfl)
    rw [this]
    split
    · rfl
    · split
      · omega
      · rfl
  funext i
  unfold accH
  rw [h, h2, Nat.add_zero]
theorem accH_end (G f : Int → Nat) (s x : Int) (hz : ∀ i, i < x → f i = 0) : accH G f s (x - 1) = fun i => G i + sqH f s i := by
  have h : downTo f (x - 1) = f := by
    funext j
    show (if x - 1 < j then f j else 0) = f j
    split
    · rfl
    · rw [hz j (by omega)]
  unfold accH
  rw [h]

def ExtH (G : Int → Nat) (c : Value) (M : Nat) (na s : Int) (p : Nat) (g : Option Nat) (rest : List Value) (T : TypeId) (w : World) (e : Ending) (w' : World) : Prop :=
  ∃ g' L cp, e = .returned (.tuple #[]) ∧ DenseOk G c na s p g' L cp rest T w' ∧ p ≠ g' ∧ L ≤ M ∧ Fr (fun b => b = p ∨ g = some b) w w' ∧ (g = some g' ∨ w.heap.size ≤ g')

def MHRel (G fo : Int → Nat) (s off omn omx : Int) (g L cp : Nat) (w wr : World) (i : Value) : Prop :=
  ∃ x : Int, i = .int .i64 x ∧ omn - 1 ≤ x ∧ x ≤ omx ∧ Row wr g L cp (fun j => accH G fo s x (off + j)) ∧ Fr (fun b => b = g) w wr
def MHRel3 (G fo : Int → Nat) (s off y : Int) (g L cp : Nat) (w wr : World) (i : Value) : Prop :=
  i = .int .i64 y ∧ Row wr g L cp (fun j => accH G fo s y (off + j)) ∧ Fr (fun b => b = g) w wr
def MHRel2 (G fo : Int → Nat) (s off omn omx : Int) (g L cp : Nat) (w wr : World) (i : Value) : Prop :=
  ∃ x : Int, i = .int .i64 x ∧ omn - 1 ≤ x ∧ x ≤ omx ∧ (x ≤ s ∨ x = omn - 1) ∧ Row wr g L cp (fun j => accH G fo s x (off + j)) ∧ Fr (fun b => b = g) w wr

/-- Behind the merge. -/
def MergedH (F : Int → Nat) (N M : Nat) (na s : Int) (p : Nat) (g : Option Nat) (rest : List Value) (T : TypeId) (w : World) (e : Ending) (w' : World) : Prop :=
  ∃ g' L cp, e = .returned (.tuple #[]) ∧ DenseOk F (.float .f64 (nf N)) na s p g' L cp rest T w' ∧ p ≠ g' ∧ L ≤ M ∧ Fr (fun b => b = p ∨ g = some b) w w' ∧ (g = some g' ∨ w.heap.size ≤ g')

end Go.Proofs.YtnmbjalojgccmaaGreat
end
/-
  The merge of the collapsing stores, one more case. (Printed by gen_mergeh.py.)
-/
section
namespace Go.Proofs.YtnmbjalojgccmaaGreat
open Go.RowKit

set_option maxRecDepth 100000 in
set_option maxHeartbeats 4000000 in
theorem mergeH_coreA (G fo : Int → Nat) (n no M : Nat) (mn mx na s omn omx : Int) (p r go Lo cpo : Nat) (g : Option Nat) (rest resto : List Value) (w : World) (d3 : w.cell? ⟨p, 3, none⟩ = some (.int .i64 mn)) (d4 : w.cell? ⟨p, 4, none⟩ = some (.int .i64 mx)) (hp : p < w.heap.size)
   (hX : ∀ w2, Fr (fun _ => False) w w2 → Calls Tryz.prog 343 #[.pointer (some ⟨p, 0, none⟩), .int .i64 omn, .int .i64 omx] w2 fun e w' => ExtH G (.float .f64 (nf n)) M na s p g rest 180 w2 e w')
   (hI : mn ≤ omn → omx ≤ mx → ∀ w2, Fr (fun _ => False) w w2 → ExtH G (.float .f64 (nf n)) M na s p g rest 180 w2 (.returned (.tuple #[])) w2)
   (hoff : s < omx → s = na + M - 1) (hsb : na ≤ s) (hnb : na ≤ omn) (hle : omn ≤ omx) (hlo : -10000 ≤ omn) (hhi : omx ≤ 10000) (hs2 : s ≤ 10000) (hnb2 : -20000 ≤ na) (hM5 : M ≤ 50000)
   (hdo : DenseOk fo (.float .f64 (nf no)) omn omx r go Lo cpo resto 180 w) (hz : (∀ i, i < omn → fo i = 0) ∧ ∀ i, omx < i → fo i = 0) (hno : 0 < no) (hsn : n + no < 9007199254740992) (hsm : ∀ x i, accH G fo s x i + fo x < 9007199254740992)
   (hrp : r ≠ p) (hrg : g ≠ some r) (hgp : go ≠ p) (hgg : g ≠ some go) (hgl : ∀ x, g = some x → x < w.heap.size) (k1 : omn < mn) :
    Calls Tryz.prog 340 #[.pointer (some ⟨p, 0, none⟩), .iface 138 (.pointer (some ⟨r, 0, none⟩))] w fun e w' => MergedH (fun i => G i + sqH fo s i) (n + no) M na s p g rest 180 w e w' := by
  have hmf : ∀ (fn : Fn) (first cap : Array Value) (w : World), (Instr.makeFunc fn first cap).run Tryz.prog w = .ok (.func fn first cap) w := fun _ _ _ _ => rfl
  have hta := fun w => run_assert_same (P := Tryz.prog) 138 70 180 (.pointer (some ⟨r, 0, none⟩)) Tryz.underlying138 w
  obtain ⟨w1, hw1⟩ : ∃ w1, w1 = w.alloc (.cells #[.pointer (some ⟨p, 0, none⟩)] 138) := ⟨_, rfl⟩
  have hf01 : Fr (fun _ => False) w w1 := by rw [hw1]; exact (Fr.refl _ w).alloc _
  have hs1 : w1.heap.size = w.heap.size + 1 := by rw [hw1]; simp
  have hbx : w1.heap[w.heap.size]? = some (.cells #[.pointer (some ⟨p, 0, none⟩)] 138 (0, 0)) := by rw [hw1]; exact heap_alloc_new w _
  have hdo1 := hdo.fr hf01 (fun h => h) (fun h => h)
  obtain ⟨offo, hdo2, hro2, q1, q2, q3, q4⟩ := hdo1
  obtain ⟨off0, hdw, hrw, -⟩ := hdo
  have hrlt := hdw.lt
  have hglt := hrw.lt
  clear hdw hrw
  obtain ⟨r0, r1, r2, r3, r4⟩ := hdo2.cells
  have HEM : Calls Tryz.prog 205 #[.pointer (some ⟨r, 0, none⟩)] (w.alloc (.cells #[.pointer (some ⟨p, 0, none⟩)] 138)) fun e w' => e = .returned (.bool false) ∧ w' = w1 := by
    rw [← hw1]
    refine (isEmptyD_any r no (by omega) w1 r1).mono ?_
    rintro e w' ⟨rfl, rfl⟩
    exact ⟨by rw [show (no == 0) = false from by simp; omega], rfl⟩
  have e3 := hf01.cell d3 (fun h => h)
  have e4 := hf01.cell d4 (fun h => h)
  have bx0 := cell_of_one hbx
  have hM : ∀ w, (method 405 138 (.pointer (some ⟨r, 0, none⟩)) "IsEmpty").run Tryz.prog w = .ok (205, .pointer (some ⟨r, 0, none⟩)) w := toldH.mEmp r
  have hE : ∀ args w, (callFunc 205 args).run Tryz.prog w = .ok (.enter 205 args) w := toldH.eEmp
  have HDO1 := Lib.hid hdo2
  have HRO1 := Lib.hid hro2
  have HBX1 := Lib.hid hbx
  have HX := Lib.hid hX
  have HI := Lib.hid hI
  have HF01 := Lib.hid hf01
  have HW1 := Lib.hid hw1
  have HS1 := Lib.hid hs1
  have HZO := Lib.hid hz
  have HSM := Lib.hid hsm
  have HSN := Lib.hid hsn
  have HGP := Lib.hid hgp
  have HRP := Lib.hid hrp
  have HRG0 := Lib.hid hrg
  have HGG0 := Lib.hid hgg
  have HGL := Lib.hid hgl
  have HOFF := Lib.hid hoff
  clear hX hI hdo2 hro2 hbx hw1 hf01 d3 d4 r0 r1 r2 hz hsm hsn hgp hrp hrg hgg hgl hs1 hoff
  have g1 : decide (omn < mn) = true := by simpa using k1
  go_enter Tryz.func340, Tryz.ntmps340
  go_wp2_with (go_at_fn 205; (with_reducible refine HEM.mono ?_); rintro e w2 ⟨rfl, rfl⟩; clear HEM hM hE)
  go_quiet (fail)
  obtain ⟨w5, hw5⟩ : ∃ w5, w5 = w2.drewN nq := ⟨_, rfl⟩
  have HF12 := Lib.hid (show Fr (fun _ => False) w2 w5.drew by rw [hw5]; exact ((Fr.refl _ w2).drewN nq).drew)
  have HX2 := HX.out _ (HF01.out.trans HF12.out (fun _ _ h => h) (fun _ _ h => h.elim))
  have s3 : w5.cell? ⟨r, 3, none⟩ = some (.int .i64 omn) := by rw [hw5]; exact r3
  have s4 : w5.cell? ⟨r, 4, none⟩ = some (.int .i64 omx) := by rw [hw5]; exact r4
  have sx : w5.cell? ⟨w.heap.size, 0, none⟩ = some (.pointer (some ⟨p, 0, none⟩)) := by rw [hw5]; exact bx0
  rw [← hw5]
  clear hw5 r3 r4 bx0 e3 e4
  go_wp2
  go_still_tail 11, (by kernel_rfl)
  show wpList _ _ _ _ _ w5.drew
  go_wp2_with fail
  refine HX2.mono ?_
  intro e w3 hx
  have HE2 := Lib.hid hx
  obtain ⟨_, _, _, rfl, -⟩ := hx
  clear HX2 s3 s4 sx
  obtain ⟨g', L, cp, -, ⟨off, hd2, hr2, b1, b2, b3, b4⟩, hpg, hll, hf2, hg⟩ := HE2.out
  have hz2 := HF12.out.size
  have hz3 := hf2.size
  have hs1 := HS1.out
  have hgl := HGL.out
  have hf02 : Fr (fun b => b = p ∨ g = some b) w w3 := (HF01.out.trans HF12.out (fun _ _ h => h) (fun _ _ h => h.elim)).trans hf2 (fun _ _ h => h.elim) (fun _ _ h => h)
  have hnew : ∀ b, b < w2.heap.size → ¬ (g = some b) → b ≠ g' := fun b hb h h2 => by
    rcases hg with h3 | h3
    · exact h (by rw [h2]; exact h3)
    · omega
  have hrg := hnew r (by omega) HRG0.out
  have hgg := hnew go (by omega) HGG0.out
  have hbg := hnew w.heap.size (by omega) (fun h => by have := hgl _ h; omega)
  have hf13 : Fr (fun b => b = p ∨ g = some b) w2 w3 := HF12.out.trans hf2 (fun _ _ h => h.elim) (fun _ _ h => h)
  have hdo3 := HDO1.out.fr hf13 (fun h => h.elim HRP.out HRG0.out)
  have hro3 := HRO1.out.fr hf13 (fun h => h.elim HGP.out HGG0.out)
  have hbx3 := hf13.heap HBX1.out (fun h => h.elim (fun h => by omega) (fun h => by have := hgl _ h; omega))
  have HD2 := Lib.hid hd2
  have HR2 := Lib.hid hr2
  have HDO := Lib.hid hdo3
  have HRO := Lib.hid hro3
  have HBX2 := Lib.hid hbx3
  have HPG := Lib.hid hpg
  have HRG := Lib.hid hrg
  have HGG := Lib.hid hgg
  have HBG := Lib.hid hbg
  have HF2 := Lib.hid hf02
  have HG := Lib.hid (show g = some g' ∨ w.heap.size ≤ g' from hg.imp id (fun h => by omega))
  have HB1 := Lib.hid (And.intro b1 (And.intro b2 (And.intro b3 b4)))
  have hl5 : L ≤ 50000 := by omega
  have HLL := Lib.hid hll
  clear HE2 hf2 hf02 hf13 hdo3 hro3 hbx3 hnew hd2 hr2 hpg hrg hgg hbg hg hll hgl hs1 hz2 hz3 HX HI HF12 b1 b2 b3 b4
  obtain ⟨d0, d1, d2, d3, d4⟩ := HD2.out.cells
  obtain ⟨r0, r1, r2, r3, r4⟩ := HDO.out.cells
  have bx0 := cell_of_one HBX2.out
  go_wp2
  clear d0 d1 d2 d3 d4 r0 r1 r2 r3 r4 bx0
  go_loopw [6] (fun i wr => MHRel G fo s off omn omx g' L cp w3 wr i) (fun i _ => (intOf i - omn + 1).toNat)
  case atStart => exact ⟨omx, rfl, by omega, Int.le_refl _, HR2.out.ext (fun j _ => by rw [accH_zero _ _ _ _ HZO.out.2]), Fr.refl _ _⟩
  case round =>
    obtain ⟨x, rfl, hx1, hx2, hrow, hfr⟩ := hrel
    obtain ⟨d0, d1, d2, d3, d4⟩ := (HD2.out.fr hfr HPG.out).cells
    obtain ⟨r0, r1, r2, r3, r4⟩ := (HDO.out.fr hfr (fun h => HRG.out h)).cells
    have bx0 := cell_of_one (hfr.heap HBX2.out (fun h => HBG.out h))
    by_cases c1 : s < x
    · by_cases c2 : omn ≤ x
      · obtain ⟨j, hj⟩ : ∃ j : Nat, (L : Int) - 1 = (j : Int) := ⟨((L : Int) - 1).toNat, by have := HB1.out; omega⟩
        have hjx : off + ((j : Nat) : Int) = min x s := by have := HOFF.out; have := HB1.out; have := HLL.out; omega
        have hjL : j < L := by omega
        have hjL' : (j : Int) < (L : Int) := by omega
        obtain ⟨k, hk⟩ : ∃ k : Nat, x - offo = (k : Int) := ⟨(x - offo).toNat, by omega⟩
        have hkL : k < Lo := by omega
        have hkL' : (k : Int) < (Lo : Int) := by omega
        have hcell := hrow.cell j hjL
        have hfree := hrow.free j
        rw [hjx] at hcell
        have hoc := (HRO.out.fr hfr (fun h => HGG.out h)).cell k hkL
        rw [show offo + (k : Int) = x from by omega] at hoc
        have hadd := fun w : World => run_float_arith (P := Tryz.prog) w .add 30 .f64 _ _ _ (nf_add (accH G fo s x (min x s)) (fo x) (HSM.out x (min x s)))
        have i2 : IntKind.i64.wrap (x - offo) = (k : Int) := by rw [IntKind.wrap_i64]; omega
        have i3 : IntKind.i64.wrap (x - 1) = x - 1 := by rw [IntKind.wrap_i64]; omega
        have i1 : IntKind.i64.wrap ((L : Int) - 1) = (j : Int) := by rw [IntKind.wrap_i64]; omega
        obtain ⟨u, hu⟩ : ∃ u, u = nf (accH G fo s x (min x s)) := ⟨_, rfl⟩
        obtain ⟨v, hv⟩ : ∃ v, v = nf (fo x) := ⟨_, rfl⟩
        obtain ⟨y, hy⟩ : ∃ y, y = nf (accH G fo s x (min x s) + fo x) := ⟨_, rfl⟩
        rw [← hu] at hcell hadd
        rw [← hv] at hoc hadd
        rw [← hy] at hadd
        have HY := Lib.hid hy
        have HO := Lib.hid hrow
        have HFR := Lib.hid hfr
        have HJX := Lib.hid hjx
        clear hrow hfr hjx hu hv hy hk hj
        go_wp2
        go_still_tail 30, (by kernel_rfl)
        show wpList _ _ _ _ _ wr.drew
        go_wp2
        go_roundw
        case rel =>
          have hset := HO.out.drew.set j (accH G fo s x (min x s) + fo x) hjL
          rw [← HY.out] at hset
          have hnx : Row (wr.drew.setCell ⟨g', j, none⟩ (.float .f64 y)) g' L cp (fun j => accH G fo s (x - 1) (off + j)) := hset.ext (fun i hi => by
            have hjx := HJX.out
            rw [accH_step _ _ _ _ (by omega) (by omega) hs2]
            by_cases hij : (i : Int) = (j : Nat)
            · rw [if_pos (by omega), if_pos (by omega), show off + (i : Int) = min x s from by omega]
            · rw [if_neg (by omega), if_neg (by omega)])
          have hfn : Fr (fun b => b = g') w3 (wr.drew.setCell ⟨g', j, none⟩ (.float .f64 y)) := HFR.out.drew.setCell (p := ⟨g', j, none⟩) (fun _ => rfl) _
          exact ⟨x - 1, by go_num, by omega, by omega, hnx, hfn⟩
        case measure => simp [intOf]; omega
      · obtain rfl : x = omn - 1 := by omega
        go_wp2
        clear d0 d1 d2 d3 d4 r0 r1 r2 r3 r4 bx0
        go_loopw [6] (fun i wr => MHRel3 G fo s off (omn - 1) g' L cp w3 wr i) (fun _ _ => 0)
        case atStart => exact ⟨rfl, hrow, hfr⟩
        case round =>
          clear hrow hfr
          obtain ⟨rfl, hrow, hfr⟩ := hrel
          obtain ⟨d0, d1, d2, d3, d4⟩ := (HD2.out.fr hfr HPG.out).cells
          obtain ⟨r0, r1, r2, r3, r4⟩ := (HDO.out.fr hfr (fun h => HRG.out h)).cells
          have bx0 := cell_of_one (hfr.heap HBX2.out (fun h => HBG.out h))
          have hadd := fun w : World => run_float_arith (P := Tryz.prog) w .add 30 .f64 _ _ _ (nf_add n no HSN.out)
          have f1 := (HD2.out.fr hfr HPG.out).free 1
          obtain ⟨c1, hc1⟩ : ∃ c1, c1 = nf n := ⟨_, rfl⟩
          obtain ⟨c2, hc2⟩ : ∃ c2, c2 = nf no := ⟨_, rfl⟩
          obtain ⟨c3, hc3⟩ : ∃ c3, c3 = nf (n + no) := ⟨_, rfl⟩
          rw [← hc1] at d1 hadd
          rw [← hc2] at r1 hadd
          rw [← hc3] at hadd
          have HC3 := Lib.hid hc3
          have HO := Lib.hid hrow
          have HFR := Lib.hid hfr
          clear hrow hfr hc1 hc2 hc3
          go_wp2
          go_still_tail 14, (by kernel_rfl)
          show wpList _ _ _ _ _ wr.drew
          go_wp2
          go_end0
          have hd9 := ((HD2.out.fr HFR.out HPG.out).drew).set1 (.float .f64 c3)
          have hr9 : Row (wr.drew.setCell ⟨p, 1, none⟩ (.float .f64 c3)) g' L cp (fun j => (fun i => G i + sqH fo s i) (off + j)) := by
            have h := (HO.out.drew.other (p := ⟨p, 1, none⟩) HPG.out (.float .f64 c3))
            rw [accH_end G fo s omn HZO.out.1] at h
            exact h
          rw [HC3.out] at hd9 hr9
          refine ⟨g', L, cp, rfl, ⟨off, by rw [HC3.out]; exact hd9, by rw [HC3.out]; exact hr9, HB1.out.1, HB1.out.2.1, HB1.out.2.2.1, HB1.out.2.2.2⟩, HPG.out, HLL.out, ?_, HG.out⟩
          refine ((HF2.out.trans HFR.out.drew (fun _ _ h => h) (fun i hi h => ?_))).setCell (p := ⟨p, 1, none⟩) (fun _ => .inl rfl) _
          rcases HG.out with h2 | h2
          · right; rw [h2, h]
          · omega
    · have hsx : x ≤ s ∨ x = omn - 1 := .inl (by omega)
      replace c1 := Int.not_lt.1 c1
      go_wp2
      clear d0 d1 d2 d3 d4 r0 r1 r2 r3 r4 bx0
      go_loopw [6] (fun i wr => MHRel2 G fo s off omn omx g' L cp w3 wr i) (fun i _ => (intOf i - omn + 1).toNat)
      case atStart => exact ⟨x, rfl, hx1, hx2, hsx, hrow, hfr⟩
      case round =>
        clear hrow hfr hx1 hx2 hsx
        obtain ⟨x, rfl, hx1, hx2, hsx, hrow, hfr⟩ := hrel
        obtain ⟨d0, d1, d2, d3, d4⟩ := (HD2.out.fr hfr HPG.out).cells
        obtain ⟨r0, r1, r2, r3, r4⟩ := (HDO.out.fr hfr (fun h => HRG.out h)).cells
        have bx0 := cell_of_one (hfr.heap HBX2.out (fun h => HBG.out h))
        by_cases c2 : omn < x
        · obtain ⟨j, hj⟩ : ∃ j : Nat, x - off = (j : Int) := ⟨(x - off).toNat, by have := HB1.out; omega⟩
          have hjx : off + ((j : Nat) : Int) = min x s := by omega
          have hjL : j < L := by have := HB1.out; omega
          have hjL' : (j : Int) < (L : Int) := by omega
          obtain ⟨k, hk⟩ : ∃ k : Nat, x - offo = (k : Int) := ⟨(x - offo).toNat, by omega⟩
          have hkL : k < Lo := by omega
          have hkL' : (k : Int) < (Lo : Int) := by omega
          have hcell := hrow.cell j hjL
          have hfree := hrow.free j
          rw [hjx] at hcell
          have hoc := (HRO.out.fr hfr (fun h => HGG.out h)).cell k hkL
          rw [show offo + (k : Int) = x from by omega] at hoc
          have hadd := fun w : World => run_float_arith (P := Tryz.prog) w .add 30 .f64 _ _ _ (nf_add (accH G fo s x (min x s)) (fo x) (HSM.out x (min x s)))
          have i2 : IntKind.i64.wrap (x - offo) = (k : Int) := by rw [IntKind.wrap_i64]; omega
          have i3 : IntKind.i64.wrap (x - 1) = x - 1 := by rw [IntKind.wrap_i64]; omega
          have i1 : IntKind.i64.wrap (x - off) = (j : Int) := by rw [IntKind.wrap_i64]; omega
          obtain ⟨u, hu⟩ : ∃ u, u = nf (accH G fo s x (min x s)) := ⟨_, rfl⟩
          obtain ⟨v, hv⟩ : ∃ v, v = nf (fo x) := ⟨_, rfl⟩
          obtain ⟨y, hy⟩ : ∃ y, y = nf (accH G fo s x (min x s) + fo x) := ⟨_, rfl⟩
          rw [← hu] at hcell hadd
          rw [← hv] at hoc hadd
          rw [← hy] at hadd
          have HY := Lib.hid hy
          have HO := Lib.hid hrow
          have HFR := Lib.hid hfr
          have HJX := Lib.hid hjx
          clear hrow hfr hjx hu hv hy hk hj
          go_wp2
          go_still_tail 30, (by kernel_rfl)
          show wpList _ _ _ _ _ wr.drew
          go_wp2
          go_roundw
          case rel =>
            have hset := HO.out.drew.set j (accH G fo s x (min x s) + fo x) hjL
            rw [← HY.out] at hset
            have hnx : Row (wr.drew.setCell ⟨g', j, none⟩ (.float .f64 y)) g' L cp (fun j => accH G fo s (x - 1) (off + j)) := hset.ext (fun i hi => by
              have hjx := HJX.out
              rw [accH_step _ _ _ _ (by omega) (by omega) hs2]
              by_cases hij : (i : Int) = (j : Nat)
              · rw [if_pos (by omega), if_pos (by omega), show off + (i : Int) = min x s from by omega]
              · rw [if_neg (by omega), if_neg (by omega)])
            have hfn : Fr (fun b => b = g') w3 (wr.drew.setCell ⟨g', j, none⟩ (.float .f64 y)) := HFR.out.drew.setCell (p := ⟨g', j, none⟩) (fun _ => rfl) _
            exact ⟨x - 1, by go_num, by omega, by omega, by omega, hnx, hfn⟩
          case measure => simp [intOf]; omega
        · replace c2 := Int.not_lt.1 c2
          by_cases c3 : x = omn
          · have hsm := HSM.out
            subst c3
            obtain ⟨j, hj⟩ : ∃ j : Nat, x - off = (j : Int) := ⟨(x - off).toNat, by have := HB1.out; omega⟩
            have hjx : off + ((j : Nat) : Int) = min x s := by omega
            have hjL : j < L := by have := HB1.out; omega
            have hjL' : (j : Int) < (L : Int) := by omega
            obtain ⟨k, hk⟩ : ∃ k : Nat, x - offo = (k : Int) := ⟨(x - offo).toNat, by omega⟩
            have hkL : k < Lo := by omega
            have hkL' : (k : Int) < (Lo : Int) := by omega
            have hcell := hrow.cell j hjL
            have hfree := hrow.free j
            rw [hjx] at hcell
            have hoc := (HRO.out.fr hfr (fun h => HGG.out h)).cell k hkL
            rw [show offo + (k : Int) = x from by omega] at hoc
            have hadd := fun w : World => run_float_arith (P := Tryz.prog) w .add 30 .f64 _ _ _ (nf_add (accH G fo s x (min x s)) (fo x) (HSM.out x (min x s)))
            have i2 : IntKind.i64.wrap (x - offo) = (k : Int) := by rw [IntKind.wrap_i64]; omega
            have i3 : IntKind.i64.wrap (x - 1) = x - 1 := by rw [IntKind.wrap_i64]; omega
            have i1 : IntKind.i64.wrap (x - off) = (j : Int) := by rw [IntKind.wrap_i64]; omega
            obtain ⟨u, hu⟩ : ∃ u, u = nf (accH G fo s x (min x s)) := ⟨_, rfl⟩
            obtain ⟨v, hv⟩ : ∃ v, v = nf (fo x) := ⟨_, rfl⟩
            obtain ⟨y, hy⟩ : ∃ y, y = nf (accH G fo s x (min x s) + fo x) := ⟨_, rfl⟩
            rw [← hu] at hcell hadd
            rw [← hv] at hoc hadd
            rw [← hy] at hadd
            have HY := Lib.hid hy
            have HO := Lib.hid hrow
            have HFR := Lib.hid hfr
            have HJX := Lib.hid hjx
            clear hrow hfr hjx hu hv hy hk hj
            go_wp2
            go_still_tail 30, (by kernel_rfl)
            show wpList _ _ _ _ _ wr.drew
            go_wp2
            have hset := HO.out.drew.set j (accH G fo s x (min x s) + fo x) hjL
            rw [← HY.out] at hset
            have hnx : Row (wr.drew.setCell ⟨g', j, none⟩ (.float .f64 y)) g' L cp (fun j => accH G fo s (x - 1) (off + j)) := hset.ext (fun i hi => by
              have hjx := HJX.out
              rw [accH_step _ _ _ _ (by omega) (by omega) hs2]
              by_cases hij : (i : Int) = (j : Nat)
              · rw [if_pos (by omega), if_pos (by omega), show off + (i : Int) = min x s from by omega]
              · rw [if_neg (by omega), if_neg (by omega)])
            have hfn : Fr (fun b => b = g') w3 (wr.drew.setCell ⟨g', j, none⟩ (.float .f64 y)) := HFR.out.drew.setCell (p := ⟨g', j, none⟩) (fun _ => rfl) _
            obtain ⟨ww, hww⟩ : ∃ ww, ww = (wr.setCell ⟨g', j, none⟩ (.float .f64 y)).drew := ⟨_, rfl⟩
            rw [← hww]
            replace hnx : Row ww g' L cp (fun j => accH G fo s (x - 1) (off + j)) := by rw [hww]; exact hnx
            replace hfn : Fr (fun b => b = g') w3 ww := by rw [hww]; exact hfn
            clear hww hset d0 d1 d2 d3 d4 r0 r1 r2 r3 r4 bx0 hcell hfree hoc hadd HO HFR HY HJX
            obtain ⟨d0, d1, d2, d3, d4⟩ := (HD2.out.fr hfn HPG.out).cells
            obtain ⟨r0, r1, r2, r3, r4⟩ := (HDO.out.fr hfn (fun h => HRG.out h)).cells
            have bx0 := cell_of_one (hfn.heap HBX2.out (fun h => HBG.out h))
            have hadd := fun w : World => run_float_arith (P := Tryz.prog) w .add 30 .f64 _ _ _ (nf_add n no HSN.out)
            have f1 := (HD2.out.fr hfn HPG.out).free 1
            obtain ⟨c1, hc1⟩ : ∃ c1, c1 = nf n := ⟨_, rfl⟩
            obtain ⟨c2, hc2⟩ : ∃ c2, c2 = nf no := ⟨_, rfl⟩
            obtain ⟨c3, hc3⟩ : ∃ c3, c3 = nf (n + no) := ⟨_, rfl⟩
            rw [← hc1] at d1 hadd
            rw [← hc2] at r1 hadd
            rw [← hc3] at hadd
            have HC3 := Lib.hid hc3
            have HO := Lib.hid hnx
            have HFR := Lib.hid hfn
            clear hnx hfn hc1 hc2 hc3
            go_wp2
            go_still_tail 14, (by kernel_rfl)
            show wpList _ _ _ _ _ ww.drew
            go_wp2
            go_end0
            have hd9 := ((HD2.out.fr HFR.out HPG.out).drew).set1 (.float .f64 c3)
            have hr9 : Row (ww.drew.setCell ⟨p, 1, none⟩ (.float .f64 c3)) g' L cp (fun j => (fun i => G i + sqH fo s i) (off + j)) := by
              have h := (HO.out.drew.other (p := ⟨p, 1, none⟩) HPG.out (.float .f64 c3))
              rw [accH_end G fo s x HZO.out.1] at h
              exact h
            rw [HC3.out] at hd9 hr9
            refine ⟨g', L, cp, rfl, ⟨off, by rw [HC3.out]; exact hd9, by rw [HC3.out]; exact hr9, HB1.out.1, HB1.out.2.1, HB1.out.2.2.1, HB1.out.2.2.2⟩, HPG.out, HLL.out, ?_, HG.out⟩
            refine ((HF2.out.trans HFR.out.drew (fun _ _ h => h) (fun i hi h => ?_))).setCell (p := ⟨p, 1, none⟩) (fun _ => .inl rfl) _
            rcases HG.out with h2 | h2
            · right; rw [h2, h]
            · omega
          · have hxe : x = omn - 1 := by omega
            rw [hxe] at hrow
            have hadd := fun w : World => run_float_arith (P := Tryz.prog) w .add 30 .f64 _ _ _ (nf_add n no HSN.out)
            have f1 := (HD2.out.fr hfr HPG.out).free 1
            obtain ⟨c1, hc1⟩ : ∃ c1, c1 = nf n := ⟨_, rfl⟩
            obtain ⟨c2, hc2⟩ : ∃ c2, c2 = nf no := ⟨_, rfl⟩
            obtain ⟨c3, hc3⟩ : ∃ c3, c3 = nf (n + no) := ⟨_, rfl⟩
            rw [← hc1] at d1 hadd
            rw [← hc2] at r1 hadd
            rw [← hc3] at hadd
            have HC3 := Lib.hid hc3
            have HO := Lib.hid hrow
            have HFR := Lib.hid hfr
            clear hrow hfr hc1 hc2 hc3
            go_wp2
            go_still_tail 14, (by kernel_rfl)
            show wpList _ _ _ _ _ wr.drew
            go_wp2
            go_end0
            have hd9 := ((HD2.out.fr HFR.out HPG.out).drew).set1 (.float .f64 c3)
            have hr9 : Row (wr.drew.setCell ⟨p, 1, none⟩ (.float .f64 c3)) g' L cp (fun j => (fun i => G i + sqH fo s i) (off + j)) := by
              have h := (HO.out.drew.other (p := ⟨p, 1, none⟩) HPG.out (.float .f64 c3))
              rw [accH_end G fo s omn HZO.out.1] at h
              exact h
            rw [HC3.out] at hd9 hr9
            refine ⟨g', L, cp, rfl, ⟨off, by rw [HC3.out]; exact hd9, by rw [HC3.out]; exact hr9, HB1.out.1, HB1.out.2.1, HB1.out.2.2.1, HB1.out.2.2.2⟩, HPG.out, HLL.out, ?_, HG.out⟩
            refine ((HF2.out.trans HFR.out.drew (fun _ _ h => h) (fun i hi h => ?_))).setCell (p := ⟨p, 1, none⟩) (fun _ => .inl rfl) _
            rcases HG.out with h2 | h2
            · right; rw [h2, h]
            · omega

end Go.Proofs.YtnmbjalojgccmaaGreat
end
/-
  The merge of the collapsing stores, one more case. (Printed by gen_mergeh.py.)
-/
section
namespace Go.Proofs.YtnmbjalojgccmaaGreat
open Go.RowKit

set_option maxRecDepth 100000 in
set_option maxHeartbeats 4000000 in
theorem mergeH_coreC (G fo : Int → Nat) (n no M : Nat) (mn mx na s omn omx : Int) (p r go Lo cpo : Nat) (g : Option Nat) (rest resto : List Value) (w : World) (d3 : w.cell? ⟨p, 3, none⟩ = some (.int .i64 mn)) (d4 : w.cell? ⟨p, 4, none⟩ = some (.int .i64 mx)) (hp : p < w.heap.size)
   (hX : ∀ w2, Fr (fun _ => False) w w2 → Calls Tryz.prog 343 #[.pointer (some ⟨p, 0, none⟩), .int .i64 omn, .int .i64 omx] w2 fun e w' => ExtH G (.float .f64 (nf n)) M na s p g rest 180 w2 e w')
   (hI : mn ≤ omn → omx ≤ mx → ∀ w2, Fr (fun _ => False) w w2 → ExtH G (.float .f64 (nf n)) M na s p g rest 180 w2 (.returned (.tuple #[])) w2)
   (hoff : s < omx → s = na + M - 1) (hsb : na ≤ s) (hnb : na ≤ omn) (hle : omn ≤ omx) (hlo : -10000 ≤ omn) (hhi : omx ≤ 10000) (hs2 : s ≤ 10000) (hnb2 : -20000 ≤ na) (hM5 : M ≤ 50000)
   (hdo : DenseOk fo (.float .f64 (nf no)) omn omx r go Lo cpo resto 180 w) (hz : (∀ i, i < omn → fo i = 0) ∧ ∀ i, omx < i → fo i = 0) (hno : 0 < no) (hsn : n + no < 9007199254740992) (hsm : ∀ x i, accH G fo s x i + fo x < 9007199254740992)
   (hrp : r ≠ p) (hrg : g ≠ some r) (hgp : go ≠ p) (hgg : g ≠ some go) (hgl : ∀ x, g = some x → x < w.heap.size) (k1 : mn ≤ omn) (k2 : omx ≤ mx) :
    Calls Tryz.prog 340 #[.pointer (some ⟨p, 0, none⟩), .iface 138 (.pointer (some ⟨r, 0, none⟩))] w fun e w' => MergedH (fun i => G i + sqH fo s i) (n + no) M na s p g rest 180 w e w' := by
  have hmf : ∀ (fn : Fn) (first cap : Array Value) (w : World), (Instr.makeFunc fn first cap).run Tryz.prog w = .ok (.func fn first cap) w := fun _ _ _ _ => rfl
  have hta := fun w => run_assert_same (P := Tryz.prog) 138 70 180 (.pointer (some ⟨r, 0, none⟩)) Tryz.underlying138 w
  obtain ⟨w1, hw1⟩ : ∃ w1, w1 = w.alloc (.cells #[.pointer (some ⟨p, 0, none⟩)] 138) := ⟨_, rfl⟩
  have hf01 : Fr (fun _ => False) w w1 := by rw [hw1]; exact (Fr.refl _ w).alloc _
  have hs1 : w1.heap.size = w.heap.size + 1 := by rw [hw1]; simp
  have hbx : w1.heap[w.heap.size]? = some (.cells #[.pointer (some ⟨p, 0, none⟩)] 138 (0, 0)) := by rw [hw1]; exact heap_alloc_new w _
  have hdo1 := hdo.fr hf01 (fun h => h) (fun h => h)
  obtain ⟨offo, hdo2, hro2, q1, q2, q3, q4⟩ := hdo1
  obtain ⟨off0, hdw, hrw, -⟩ := hdo
  have hrlt := hdw.lt
  have hglt := hrw.lt
  clear hdw hrw
  obtain ⟨r0, r1, r2, r3, r4⟩ := hdo2.cells
  have HEM : Calls Tryz.prog 205 #[.pointer (some ⟨r, 0, none⟩)] (w.alloc (.cells #[.pointer (some ⟨p, 0, none⟩)] 138)) fun e w' => e = .returned (.bool false) ∧ w' = w1 := by
    rw [← hw1]
    refine (isEmptyD_any r no (by omega) w1 r1).mono ?_
    rintro e w' ⟨rfl, rfl⟩
    exact ⟨by rw [show (no == 0) = false from by simp; omega], rfl⟩
  have e3 := hf01.cell d3 (fun h => h)
  have e4 := hf01.cell d4 (fun h => h)
  have bx0 := cell_of_one hbx
  have hM : ∀ w, (method 405 138 (.pointer (some ⟨r, 0, none⟩)) "IsEmpty").run Tryz.prog w = .ok (205, .pointer (some ⟨r, 0, none⟩)) w := toldH.mEmp r
  have hE : ∀ args w, (callFunc 205 args).run Tryz.prog w = .ok (.enter 205 args) w := toldH.eEmp
  have HDO1 := Lib.hid hdo2
  have HRO1 := Lib.hid hro2
  have HBX1 := Lib.hid hbx
  have HX := Lib.hid hX
  have HI := Lib.hid hI
  have HF01 := Lib.hid hf01
  have HW1 := Lib.hid hw1
  have HS1 := Lib.hid hs1
  have HZO := Lib.hid hz
  have HSM := Lib.hid hsm
  have HSN := Lib.hid hsn
  have HGP := Lib.hid hgp
  have HRP := Lib.hid hrp
  have HRG0 := Lib.hid hrg
  have HGG0 := Lib.hid hgg
  have HGL := Lib.hid hgl
  have HOFF := Lib.hid hoff
  clear hX hI hdo2 hro2 hbx hw1 hf01 d3 d4 r0 r1 r2 hz hsm hsn hgp hrp hrg hgg hgl hs1 hoff
  have g1 : decide (omn < mn) = false := by simpa using k1
  have g2 : decide (mx < omx) = false := by simpa using k2
  go_enter Tryz.func340, Tryz.ntmps340
  go_wp2_with (go_at_fn 205; (with_reducible refine HEM.mono ?_); rintro e w2 ⟨rfl, rfl⟩; clear HEM hM hE)
  go_quiet (fail)
  obtain ⟨w3, hw3⟩ : ∃ w3, w3 = w2.drewN nq := ⟨_, rfl⟩
  have HF12 := Lib.hid (show Fr (fun _ => False) w2 w3 by rw [hw3]; exact (Fr.refl _ w2).drewN nq)
  have HE2 := Lib.hid (HI.out (by omega) (by omega) w3 (HF01.out.trans HF12.out (fun _ _ h => h) (fun _ _ h => h.elim)))
  rw [← hw3]
  clear hw3 e3 e4 bx0 r3 r4
  obtain ⟨g', L, cp, -, ⟨off, hd2, hr2, b1, b2, b3, b4⟩, hpg, hll, hf2, hg⟩ := HE2.out
  have hz2 := HF12.out.size
  have hz3 := hf2.size
  have hs1 := HS1.out
  have hgl := HGL.out
  have hf02 : Fr (fun b => b = p ∨ g = some b) w w3 := (HF01.out.trans HF12.out (fun _ _ h => h) (fun _ _ h => h.elim)).trans hf2 (fun _ _ h => h.elim) (fun _ _ h => h)
  have hnew : ∀ b, b < w2.heap.size → ¬ (g = some b) → b ≠ g' := fun b hb h h2 => by
    rcases hg with h3 | h3
    · exact h (by rw [h2]; exact h3)
    · omega
  have hrg := hnew r (by omega) HRG0.out
  have hgg := hnew go (by omega) HGG0.out
  have hbg := hnew w.heap.size (by omega) (fun h => by have := hgl _ h; omega)
  have hf13 : Fr (fun b => b = p ∨ g = some b) w2 w3 := HF12.out.trans hf2 (fun _ _ h => h.elim) (fun _ _ h => h)
  have hdo3 := HDO1.out.fr hf13 (fun h => h.elim HRP.out HRG0.out)
  have hro3 := HRO1.out.fr hf13 (fun h => h.elim HGP.out HGG0.out)
  have hbx3 := hf13.heap HBX1.out (fun h => h.elim (fun h => by omega) (fun h => by have := hgl _ h; omega))
  have HD2 := Lib.hid hd2
  have HR2 := Lib.hid hr2
  have HDO := Lib.hid hdo3
  have HRO := Lib.hid hro3
  have HBX2 := Lib.hid hbx3
  have HPG := Lib.hid hpg
  have HRG := Lib.hid hrg
  have HGG := Lib.hid hgg
  have HBG := Lib.hid hbg
  have HF2 := Lib.hid hf02
  have HG := Lib.hid (show g = some g' ∨ w.heap.size ≤ g' from hg.imp id (fun h => by omega))
  have HB1 := Lib.hid (And.intro b1 (And.intro b2 (And.intro b3 b4)))
  have hl5 : L ≤ 50000 := by omega
  have HLL := Lib.hid hll
  clear HE2 hf2 hf02 hf13 hdo3 hro3 hbx3 hnew hd2 hr2 hpg hrg hgg hbg hg hll hgl hs1 hz2 hz3 HX HI HF12 b1 b2 b3 b4
  obtain ⟨d0, d1, d2, d3, d4⟩ := HD2.out.cells
  obtain ⟨r0, r1, r2, r3, r4⟩ := HDO.out.cells
  have bx0 := cell_of_one HBX2.out
  go_wp2
  clear d0 d1 d2 d3 d4 r0 r1 r2 r3 r4 bx0
  go_loopw [6] (fun i wr => MHRel G fo s off omn omx g' L cp w3 wr i) (fun i _ => (intOf i - omn + 1).toNat)
  case atStart => exact ⟨omx, rfl, by omega, Int.le_refl _, HR2.out.ext (fun j _ => by rw [accH_zero _ _ _ _ HZO.out.2]), Fr.refl _ _⟩
  case round =>
    obtain ⟨x, rfl, hx1, hx2, hrow, hfr⟩ := hrel
    obtain ⟨d0, d1, d2, d3, d4⟩ := (HD2.out.fr hfr HPG.out).cells
    obtain ⟨r0, r1, r2, r3, r4⟩ := (HDO.out.fr hfr (fun h => HRG.out h)).cells
    have bx0 := cell_of_one (hfr.heap HBX2.out (fun h => HBG.out h))
    by_cases c1 : s < x
    · by_cases c2 : omn ≤ x
      · obtain ⟨j, hj⟩ : ∃ j : Nat, (L : Int) - 1 = (j : Int) := ⟨((L : Int) - 1).toNat, by have := HB1.out; omega⟩
        have hjx : off + ((j : Nat) : Int) = min x s := by have := HOFF.out; have := HB1.out; have := HLL.out; omega
        have hjL : j < L := by omega
        have hjL' : (j : Int) < (L : Int) := by omega
        obtain ⟨k, hk⟩ : ∃ k : Nat, x - offo = (k : Int) := ⟨(x - offo).toNat, by omega⟩
        have hkL : k < Lo := by omega
        have hkL' : (k : Int) < (Lo : Int) := by omega
        have hcell := hrow.cell j hjL
        have hfree := hrow.free j
        rw [hjx] at hcell
        have hoc := (HRO.out.fr hfr (fun h => HGG.out h)).cell k hkL
        rw [show offo + (k : Int) = x from by omega] at hoc
        have hadd := fun w : World => run_float_arith (P := Tryz.prog) w .add 30 .f64 _ _ _ (nf_add (accH G fo s x (min x s)) (fo x) (HSM.out x (min x s)))
        have i2 : IntKind.i64.wrap (x - offo) = (k : Int) := by rw [IntKind.wrap_i64]; omega
        have i3 : IntKind.i64.wrap (x - 1) = x - 1 := by rw [IntKind.wrap_i64]; omega
        have i1 : IntKind.i64.wrap ((L : Int) - 1) = (j : Int) := by rw [IntKind.wrap_i64]; omega
        obtain ⟨u, hu⟩ : ∃ u, u = nf (accH G fo s x (min x s)) := ⟨_, rfl⟩
        obtain ⟨v, hv⟩ : ∃ v, v = nf (fo x) := ⟨_, rfl⟩
        obtain ⟨y, hy⟩ : ∃ y, y = nf (accH G fo s x (min x s) + fo x) := ⟨_, rfl⟩
        rw [← hu] at hcell hadd
        rw [← hv] at hoc hadd
        rw [← hy] at hadd
        have HY := Lib.hid hy
        have HO := Lib.hid hrow
        have HFR := Lib.hid hfr
        have HJX := Lib.hid hjx
        clear hrow hfr hjx hu hv hy hk hj
        go_wp2
        go_still_tail 30, (by kernel_rfl)
        show wpList _ _ _ _ _ wr.drew
        go_wp2
        go_roundw
        case rel =>
          have hset := HO.out.drew.set j (accH G fo s x (min x s) + fo x) hjL
          rw [← HY.out] at hset
          have hnx : Row (wr.drew.setCell ⟨g', j, none⟩ (.float .f64 y)) g' L cp (fun j => accH G fo s (x - 1) (off + j)) := hset.ext (fun i hi => by
            have hjx := HJX.out
            rw [accH_step _ _ _ _ (by omega) (by omega) hs2]
            by_cases hij : (i : Int) = (j : Nat)
            · rw [if_pos (by omega), if_pos (by omega), show off + (i : Int) = min x s from by omega]
            · rw [if_neg (by omega), if_neg (by omega)])
          have hfn : Fr (fun b => b = g') w3 (wr.drew.setCell ⟨g', j, none⟩ (.float .f64 y)) := HFR.out.drew.setCell (p := ⟨g', j, none⟩) (fun _ => rfl) _
          exact ⟨x - 1, by go_num, by omega, by omega, hnx, hfn⟩
        case measure => simp [intOf]; omega
      · obtain rfl : x = omn - 1 := by omega
        go_wp2
        clear d0 d1 d2 d3 d4 r0 r1 r2 r3 r4 bx0
        go_loopw [6] (fun i wr => MHRel3 G fo s off (omn - 1) g' L cp w3 wr i) (fun _ _ => 0)
        case atStart => exact ⟨rfl, hrow, hfr⟩
        case round =>
          clear hrow hfr
          obtain ⟨rfl, hrow, hfr⟩ := hrel
          obtain ⟨d0, d1, d2, d3, d4⟩ := (HD2.out.fr hfr HPG.out).cells
          obtain ⟨r0, r1, r2, r3, r4⟩ := (HDO.out.fr hfr (fun h => HRG.out h)).cells
          have bx0 := cell_of_one (hfr.heap HBX2.out (fun h => HBG.out h))
          have hadd := fun w : World => run_float_arith (P := Tryz.prog) w .add 30 .f64 _ _ _ (nf_add n no HSN.out)
          have f1 := (HD2.out.fr hfr HPG.out).free 1
          obtain ⟨c1, hc1⟩ : ∃ c1, c1 = nf n := ⟨_, rfl⟩
          obtain ⟨c2, hc2⟩ : ∃ c2, c2 = nf no := ⟨_, rfl⟩
          obtain ⟨c3, hc3⟩ : ∃ c3, c3 = nf (n + no) := ⟨_, rfl⟩
          rw [← hc1] at d1 hadd
          rw [← hc2] at r1 hadd
          rw [← hc3] at hadd
          have HC3 := Lib.hid hc3
          have HO := Lib.hid hrow
          have HFR := Lib.hid hfr
          clear hrow hfr hc1 hc2 hc3
          go_wp2
          go_still_tail 14, (by kernel_rfl)
          show wpList _ _ _ _ _ wr.drew
          go_wp2
          go_end0
          have hd9 := ((HD2.out.fr HFR.out HPG.out).drew).set1 (.float .f64 c3)
          have hr9 : Row (wr.drew.setCell ⟨p, 1, none⟩ (.float .f64 c3)) g' L cp (fun j => (fun i => G i + sqH fo s i) (off + j)) := by
            have h := (HO.out.drew.other (p := ⟨p, 1, none⟩) HPG.out (.float .f64 c3))
            rw [accH_end G fo s omn HZO.out.1] at h
            exact h
          rw [HC3.out] at hd9 hr9
          refine ⟨g', L, cp, rfl, ⟨off, by rw [HC3.out]; exact hd9, by rw [HC3.out]; exact hr9, HB1.out.1, HB1.out.2.1, HB1.out.2.2.1, HB1.out.2.2.2⟩, HPG.out, HLL.out, ?_, HG.out⟩
          refine ((HF2.out.trans HFR.out.drew (fun _ _ h => h) (fun i hi h => ?_))).setCell (p := ⟨p, 1, none⟩) (fun _ => .inl rfl) _
          rcases HG.out with h2 | h2
          · right; rw [h2, h]
          · omega
    · have hsx : x ≤ s ∨ x = omn - 1 := .inl (by omega)
      replace c1 := Int.not_lt.1 c1
      go_wp2
      clear d0 d1 d2 d3 d4 r0 r1 r2 r3 r4 bx0
      go_loopw [6] (fun i wr => MHRel2 G fo s off omn omx g' L cp w3 wr i) (fun i _ => (intOf i - omn + 1).toNat)
      case atStart => exact ⟨x, rfl, hx1, hx2, hsx, hrow, hfr⟩
      case round =>
        clear hrow hfr hx1 hx2 hsx
        obtain ⟨x, rfl, hx1, hx2, hsx, hrow, hfr⟩ := hrel
        obtain ⟨d0, d1, d2, d3, d4⟩ := (HD2.out.fr hfr HPG.out).cells
        obtain ⟨r0, r1, r2, r3, r4⟩ := (HDO.out.fr hfr (fun h => HRG.out h)).cells
        have bx0 := cell_of_one (hfr.heap HBX2.out (fun h => HBG.out h))
        by_cases c2 : omn < x
        · obtain ⟨j, hj⟩ : ∃ j : Nat, x - off = (j : Int) := ⟨(x - off).toNat, by have := HB1.out; omega⟩
          have hjx : off + ((j : Nat) : Int) = min x s := by omega
          have hjL : j < L := by have := HB1.out; omega
          have hjL' : (j : Int) < (L : Int) := by omega
          obtain ⟨k, hk⟩ : ∃ k : Nat, x - offo = (k : Int) := ⟨(x - offo).toNat, by omega⟩
          have hkL : k < Lo := by omega
          have hkL' : (k : Int) < (Lo : Int) := by omega
          have hcell := hrow.cell j hjL
          have hfree := hrow.free j
          rw [hjx] at hcell
          have hoc := (HRO.out.fr hfr (fun h => HGG.out h)).cell k hkL
          rw [show offo + (k : Int) = x from by omega] at hoc
          have hadd := fun w : World => run_float_arith (P := Tryz.prog) w .add 30 .f64 _ _ _ (nf_add (accH G fo s x (min x s)) (fo x) (HSM.out x (min x s)))
          have i2 : IntKind.i64.wrap (x - offo) = (k : Int) := by rw [IntKind.wrap_i64]; omega
          have i3 : IntKind.i64.wrap (x - 1) = x - 1 := by rw [IntKind.wrap_i64]; omega
          have i1 : IntKind.i64.wrap (x - off) = (j : Int) := by rw [IntKind.wrap_i64]; omega
          obtain ⟨u, hu⟩ : ∃ u, u = nf (accH G fo s x (min x s)) := ⟨_, rfl⟩
          obtain ⟨v, hv⟩ : ∃ v, v = nf (fo x) := ⟨_, rfl⟩
          obtain ⟨y, hy⟩ : ∃ y, y = nf (accH G fo s x (min x s) + fo x) := ⟨_, rfl⟩
          rw [← hu] at hcell hadd
          rw [← hv] at hoc hadd
          rw [← hy] at hadd
          have HY := Lib.hid hy
          have HO := Lib.hid hrow
          have HFR := Lib.hid hfr
          have HJX := Lib.hid hjx
          clear hrow hfr hjx hu hv hy hk hj
          go_wp2
          go_still_tail 30, (by kernel_rfl)
          show wpList _ _ _ _ _ wr.drew
          go_wp2
          go_roundw
          case rel =>
            have hset := HO.out.drew.set j (accH G fo s x (min x s) + fo x) hjL
            rw [← HY.out] at hset
            have hnx : Row (wr.drew.setCell ⟨g', j, none⟩ (.float .f64 y)) g' L cp (fun j => accH G fo s (x - 1) (off + j)) := hset.ext (fun i hi => by
              have hjx := HJX.out
              rw [accH_step _ _ _ _ (by omega) (by omega) hs2]
              by_cases hij : (i : Int) = (j : Nat)
              · rw [if_pos (by omega), if_pos (by omega), show off + (i : Int) = min x s from by omega]
              · rw [if_neg (by omega), if_neg (by omega)])
            have hfn : Fr (fun b => b = g') w3 (wr.drew.setCell ⟨g', j, none⟩ (.float .f64 y)) := HFR.out.drew.setCell (p := ⟨g', j, none⟩) (fun _ => rfl) _
            exact ⟨x - 1, by go_num, by omega, by omega, by omega, hnx, hfn⟩
          case measure => simp [intOf]; omega
        · replace c2 := Int.not_lt.1 c2
          by_cases c3 : x = omn
          · have hsm := HSM.out
            subst c3
            obtain ⟨j, hj⟩ : ∃ j : Nat, x - off = (j : Int) := ⟨(x - off).toNat, by have := HB1.out; omega⟩
            have hjx : off + ((j : Nat) : Int) = min x s := by omega
            have hjL : j < L := by have := HB1.out; omega
            have hjL' : (j : Int) < (L : Int) := by omega
            obtain ⟨k, hk⟩ : ∃ k : Nat, x - offo = (k : Int) := ⟨(x - offo).toNat, by omega⟩
            have hkL : k < Lo := by omega
            have hkL' : (k : Int) < (Lo : Int) := by omega
            have hcell := hrow.cell j hjL
            have hfree := hrow.free j
            rw [hjx] at hcell
            have hoc := (HRO.out.fr hfr (fun h => HGG.out h)).cell k hkL
            rw [show offo + (k : Int) = x from by omega] at hoc
            have hadd := fun w : World => run_float_arith (P := Tryz.prog) w .add 30 .f64 _ _ _ (nf_add (accH G fo s x (min x s)) (fo x) (HSM.out x (min x s)))
            have i2 : IntKind.i64.wrap (x - offo) = (k : Int) := by rw [IntKind.wrap_i64]; omega
            have i3 : IntKind.i64.wrap (x - 1) = x - 1 := by rw [IntKind.wrap_i64]; omega
            have i1 : IntKind.i64.wrap (x - off) = (j : Int) := by rw [IntKind.wrap_i64]; omega
            obtain ⟨u, hu⟩ : ∃ u, u = nf (accH G fo s x (min x s)) := ⟨_, rfl⟩
            obtain ⟨v, hv⟩ : ∃ v, v = nf (fo x) := ⟨_, rfl⟩
            obtain ⟨y, hy⟩ : ∃ y, y = nf (accH G fo s x (min x s) + fo x) := ⟨_, rfl⟩
            rw [← hu] at hcell hadd
            rw [← hv] at hoc hadd
            rw [← hy] at hadd
            have HY := Lib.hid hy
            have HO := Lib.hid hrow
            have HFR := Lib.hid hfr
            have HJX := Lib.hid hjx
            clear hrow hfr hjx hu hv hy hk hj
            go_wp2
            go_still_tail 30, (by kernel_rfl)
            show wpList _ _ _ _ _ wr.drew
            go_wp2
            have hset := HO.out.drew.set j (accH G fo s x (min x s) + fo x) hjL
            rw [← HY.out] at hset
            have hnx : Row (wr.drew.setCell ⟨g', j, none⟩ (.float .f64 y)) g' L cp (fun j => accH G fo s (x - 1) (off + j)) := hset.ext (fun i hi => by
              have hjx := HJX.out
              rw [accH_step _ _ _ _ (by omega) (by omega) hs2]
              by_cases hij : (i : Int) = (j : Nat)
              · rw [if_pos (by omega), if_pos (by omega), show off + (i : Int) = min x s from by omega]
              · rw [if_neg (by omega), if_neg (by omega)])
            have hfn : Fr (fun b => b = g') w3 (wr.drew.setCell ⟨g', j, none⟩ (.float .f64 y)) := HFR.out.drew.setCell (p := ⟨g', j, none⟩) (fun _ => rfl) _
            obtain ⟨ww, hww⟩ : ∃ ww, ww = (wr.setCell ⟨g', j, none⟩ (.float .f64 y)).drew := ⟨_, rfl⟩
            rw [← hww]
            replace hnx : Row ww g' L cp (fun j => accH G fo s (x - 1) (off + j)) := by rw [hww]; exact hnx
            replace hfn : Fr (fun b => b = g') w3 ww := by rw [hww]; exact hfn
            clear hww hset d0 d1 d2 d3 d4 r0 r1 r2 r3 r4 bx0 hcell hfree hoc hadd HO HFR HY HJX
            obtain ⟨d0, d1, d2, d3, d4⟩ := (HD2.out.fr hfn HPG.out).cells
            obtain ⟨r0, r1, r2, r3, r4⟩ := (HDO.out.fr hfn (fun h => HRG.out h)).cells
            have bx0 := cell_of_one (hfn.heap HBX2.out (fun h => HBG.out h))
            have hadd := fun w : World => run_float_arith (P := Tryz.prog) w .add 30 .f64 _ _ _ (nf_add n no HSN.out)
            have f1 := (HD2.out.fr hfn HPG.out).free 1
            obtain ⟨c1, hc1⟩ : ∃ c1, c1 = nf n := ⟨_, rfl⟩
            obtain ⟨c2, hc2⟩ : ∃ c2, c2 = nf no := ⟨_, rfl⟩
            obtain ⟨c3, hc3⟩ : ∃ c3, c3 = nf (n + no) := ⟨_, rfl⟩
            rw [← hc1] at d1 hadd
            rw [← hc2] at r1 hadd
            rw [← hc3] at hadd
            have HC3 := Lib.hid hc3
            have HO := Lib.hid hnx
            have HFR := Lib.hid hfn
            clear hnx hfn hc1 hc2 hc3
            go_wp2
            go_still_tail 14, (by kernel_rfl)
            show wpList _ _ _ _ _ ww.drew
            go_wp2
            go_end0
            have hd9 := ((HD2.out.fr HFR.out HPG.out).drew).set1 (.float .f64 c3)
            have hr9 : Row (ww.drew.setCell ⟨p, 1, none⟩ (.float .f64 c3)) g' L cp (fun j => (fun i => G i + sqH fo s i) (off + j)) := by
              have h := (HO.out.drew.other (p := ⟨p, 1, none⟩) HPG.out (.float .f64 c3))
              rw [accH_end G fo s x HZO.out.1] at h
              exact h
            rw [HC3.out] at hd9 hr9
            refine ⟨g', L, cp, rfl, ⟨off, by rw [HC3.out]; exact hd9, by rw [HC3.out]; exact hr9, HB1.out.1, HB1.out.2.1, HB1.out.2.2.1, HB1.out.2.2.2⟩, HPG.out, HLL.out, ?_, HG.out⟩
            refine ((HF2.out.trans HFR.out.drew (fun _ _ h => h) (fun i hi h => ?_))).setCell (p := ⟨p, 1, none⟩) (fun _ => .inl rfl) _
            rcases HG.out with h2 | h2
            · right; rw [h2, h]
            · omega
          · have hxe : x = omn - 1 := by omega
            rw [hxe] at hrow
            have hadd := fun w : World => run_float_arith (P := Tryz.prog) w .add 30 .f64 _ _ _ (nf_add n no HSN.out)
            have f1 := (HD2.out.fr hfr HPG.out).free 1
            obtain ⟨c1, hc1⟩ : ∃ c1, c1 = nf n := ⟨_, rfl⟩
            obtain ⟨c2, hc2⟩ : ∃ c2, c2 = nf no := ⟨_, rfl⟩
            obtain ⟨c3, hc3⟩ : ∃ c3, c3 = nf (n + no) := ⟨_, rfl⟩
            rw [← hc1] at d1 hadd
            rw [← hc2] at r1 hadd
            rw [← hc3] at hadd
            have HC3 := Lib.hid hc3
            have HO := Lib.hid hrow
            have HFR := Lib.hid hfr
            clear hrow hfr hc1 hc2 hc3
            go_wp2
            go_still_tail 14, (by kernel_rfl)
            show wpList _ _ _ _ _ wr.drew
            go_wp2
            go_end0
            have hd9 := ((HD2.out.fr HFR.out HPG.out).drew).set1 (.float .f64 c3)
            have hr9 : Row (wr.drew.setCell ⟨p, 1, none⟩ (.float .f64 c3)) g' L cp (fun j => (fun i => G i + sqH fo s i) (off + j)) := by
              have h := (HO.out.drew.other (p := ⟨p, 1, none⟩) HPG.out (.float .f64 c3))
              rw [accH_end G fo s omn HZO.out.1] at h
              exact h
            rw [HC3.out] at hd9 hr9
            refine ⟨g', L, cp, rfl, ⟨off, by rw [HC3.out]; exact hd9, by rw [HC3.out]; exact hr9, HB1.out.1, HB1.out.2.1, HB1.out.2.2.1, HB1.out.2.2.2⟩, HPG.out, HLL.out, ?_, HG.out⟩
            refine ((HF2.out.trans HFR.out.drew (fun _ _ h => h) (fun i hi h => ?_))).setCell (p := ⟨p, 1, none⟩) (fun _ => .inl rfl) _
            rcases HG.out with h2 | h2
            · right; rw [h2, h]
            · omega

end Go.Proofs.YtnmbjalojgccmaaGreat
end
/-
  The merge of the collapsing stores, one more case. (Printed by gen_mergeh.py.)
-/
section
namespace Go.Proofs.YtnmbjalojgccmaaGreat
open Go.RowKit

set_option maxRecDepth 100000 in
set_option maxHeartbeats 4000000 in
theorem mergeH_coreB (G fo : Int → Nat) (n no M : Nat) (mn mx na s omn omx : Int) (p r go Lo cpo : Nat) (g : Option Nat) (rest resto : List Value) (w : World) (d3 : w.cell? ⟨p, 3, none⟩ = some (.int .i64 mn)) (d4 : w.cell? ⟨p, 4, none⟩ = some (.int .i64 mx)) (hp : p < w.heap.size)
   (hX : ∀ w2, Fr (fun _ => False) w w2 → Calls Tryz.prog 343 #[.pointer (some ⟨p, 0, none⟩), .int .i64 omn, .int .i64 omx] w2 fun e w' => ExtH G (.float .f64 (nf n)) M na s p g rest 180 w2 e w')
   (hI : mn ≤ omn → omx ≤ mx → ∀ w2, Fr (fun _ => False) w w2 → ExtH G (.float .f64 (nf n)) M na s p g rest 180 w2 (.returned (.tuple #[])) w2)
   (hoff : s < omx → s = na + M - 1) (hsb : na ≤ s) (hnb : na ≤ omn) (hle : omn ≤ omx) (hlo : -10000 ≤ omn) (hhi : omx ≤ 10000) (hs2 : s ≤ 10000) (hnb2 : -20000 ≤ na) (hM5 : M ≤ 50000)
   (hdo : DenseOk fo (.float .f64 (nf no)) omn omx r go Lo cpo resto 180 w) (hz : (∀ i, i < omn → fo i = 0) ∧ ∀ i, omx < i → fo i = 0) (hno : 0 < no) (hsn : n + no < 9007199254740992) (hsm : ∀ x i, accH G fo s x i + fo x < 9007199254740992)
   (hrp : r ≠ p) (hrg : g ≠ some r) (hgp : go ≠ p) (hgg : g ≠ some go) (hgl : ∀ x, g = some x → x < w.heap.size) (k1 : mn ≤ omn) (k2 : mx < omx) :
    Calls Tryz.prog 340 #[.pointer (some ⟨p, 0, none⟩), .iface 138 (.pointer (some ⟨r, 0, none⟩))] w fun e w' => MergedH (fun i => G i + sqH fo s i) (n + no) M na s p g rest 180 w e w' := by
  have hmf : ∀ (fn : Fn) (first cap : Array Value) (w : World), (Instr.makeFunc fn first cap).run Tryz.prog w = .ok (.func fn first cap) w := fun _ _ _ _ => rfl
  have hta := fun w => run_assert_same (P := Tryz.prog) 138 70 180 (.pointer (some ⟨r, 0, none⟩)) Tryz.underlying138 w
  obtain ⟨w1, hw1⟩ : ∃ w1, w1 = w.alloc (.cells #[.pointer (some ⟨p, 0, none⟩)] 138) := ⟨_, rfl⟩
  have hf01 : Fr (fun _ => False) w w1 := by rw [hw1]; exact (Fr.refl _ w).alloc _
  have hs1 : w1.heap.size = w.heap.size + 1 := by rw [hw1]; simp
  have hbx : w1.heap[w.heap.size]? = some (.cells #[.pointer (some ⟨p, 0, none⟩)] 138 (0, 0)) := by rw [hw1]; exact heap_alloc_new w _
  have hdo1 := hdo.fr hf01 (fun h => h) (fun h => h)
  obtain ⟨offo, hdo2, hro2, q1, q2, q3, q4⟩ := hdo1
  obtain ⟨off0, hdw, hrw, -⟩ := hdo
  have hrlt := hdw.lt
  have hglt := hrw.lt
  clear hdw hrw
  obtain ⟨r0, r1, r2, r3, r4⟩ := hdo2.cells
  have HEM : Calls Tryz.prog 205 #[.pointer (some ⟨r, 0, none⟩)] (w.alloc (.cells #[.pointer (some ⟨p, 0, none⟩)] 138)) fun e w' => e = .returned (.bool false) ∧ w' = w1 := by
    rw [← hw1]
    refine (isEmptyD_any r no (by omega) w1 r1).mono ?_
    rintro e w' ⟨rfl, rfl⟩
    exact ⟨by rw [show (no == 0) = false from by simp; omega], rfl⟩
  have e3 := hf01.cell d3 (fun h => h)
  have e4 := hf01.cell d4 (fun h => h)
  have bx0 := cell_of_one hbx
  have hM : ∀ w, (method 405 138 (.pointer (some ⟨r, 0, none⟩)) "IsEmpty").run Tryz.prog w = .ok (205, .pointer (some ⟨r, 0, none⟩)) w := toldH.mEmp r
  have hE : ∀ args w, (callFunc 205 args).run Tryz.prog w = .ok (.enter 205 args) w := toldH.eEmp
  have HDO1 := Lib.hid hdo2
  have HRO1 := Lib.hid hro2
  have HBX1 := Lib.hid hbx
  have HX := Lib.hid hX
  have HI := Lib.hid hI
  have HF01 := Lib.hid hf01
  have HW1 := Lib.hid hw1
  have HS1 := Lib.hid hs1
  have HZO := Lib.hid hz
  have HSM := Lib.hid hsm
  have HSN := Lib.hid hsn
  have HGP := Lib.hid hgp
  have HRP := Lib.hid hrp
  have HRG0 := Lib.hid hrg
  have HGG0 := Lib.hid hgg
  have HGL := Lib.hid hgl
  have HOFF := Lib.hid hoff
  clear hX hI hdo2 hro2 hbx hw1 hf01 d3 d4 r0 r1 r2 hz hsm hsn hgp hrp hrg hgg hgl hs1 hoff
  have g1 : decide (omn < mn) = false := by simpa using k1
  have g2 : decide (mx < omx) = true := by simpa using k2
  go_enter Tryz.func340, Tryz.ntmps340
  go_wp2_with (go_at_fn 205; (with_reducible refine HEM.mono ?_); rintro e w2 ⟨rfl, rfl⟩; clear HEM hM hE)
  go_quiet (fail)
  obtain ⟨w5, hw5⟩ : ∃ w5, w5 = w2.drewN nq := ⟨_, rfl⟩
  have HF12 := Lib.hid (show Fr (fun _ => False) w2 w5.drew by rw [hw5]; exact ((Fr.refl _ w2).drewN nq).drew)
  have HX2 := HX.out _ (HF01.out.trans HF12.out (fun _ _ h => h) (fun _ _ h => h.elim))
  have s3 : w5.cell? ⟨r, 3, none⟩ = some (.int .i64 omn) := by rw [hw5]; exact r3
  have s4 : w5.cell? ⟨r, 4, none⟩ = some (.int .i64 omx) := by rw [hw5]; exact r4
  have sx : w5.cell? ⟨w.heap.size, 0, none⟩ = some (.pointer (some ⟨p, 0, none⟩)) := by rw [hw5]; exact bx0
  rw [← hw5]
  clear hw5 r3 r4 bx0 e3 e4
  go_wp2
  go_still_tail 11, (by kernel_rfl)
  show wpList _ _ _ _ _ w5.drew
  go_wp2_with fail
  refine HX2.mono ?_
  intro e w3 hx
  have HE2 := Lib.hid hx
  obtain ⟨_, _, _, rfl, -⟩ := hx
  clear HX2 s3 s4 sx
  obtain ⟨g', L, cp, -, ⟨off, hd2, hr2, b1, b2, b3, b4⟩, hpg, hll, hf2, hg⟩ := HE2.out
  have hz2 := HF12.out.size
  have hz3 := hf2.size
  have hs1 := HS1.out
  have hgl := HGL.out
  have hf02 : Fr (fun b => b = p ∨ g = some b) w w3 := (HF01.out.trans HF12.out (fun _ _ h => h) (fun _ _ h => h.elim)).trans hf2 (fun _ _ h => h.elim) (fun _ _ h => h)
  have hnew : ∀ b, b < w2.heap.size → ¬ (g = some b) → b ≠ g' := fun b hb h h2 => by
    rcases hg with h3 | h3
    · exact h (by rw [h2]; exact h3)
    · omega
  have hrg := hnew r (by omega) HRG0.out
  have hgg := hnew go (by omega) HGG0.out
  have hbg := hnew w.heap.size (by omega) (fun h => by have := hgl _ h; omega)
  have hf13 : Fr (fun b => b = p ∨ g = some b) w2 w3 := HF12.out.trans hf2 (fun _ _ h => h.elim) (fun _ _ h => h)
  have hdo3 := HDO1.out.fr hf13 (fun h => h.elim HRP.out HRG0.out)
  have hro3 := HRO1.out.fr hf13 (fun h => h.elim HGP.out HGG0.out)
  have hbx3 := hf13.heap HBX1.out (fun h => h.elim (fun h => by omega) (fun h => by have := hgl _ h; omega))
  have HD2 := Lib.hid hd2
  have HR2 := Lib.hid hr2
  have HDO := Lib.hid hdo3
  have HRO := Lib.hid hro3
  have HBX2 := Lib.hid hbx3
  have HPG := Lib.hid hpg
  have HRG := Lib.hid hrg
  have HGG := Lib.hid hgg
  have HBG := Lib.hid hbg
  have HF2 := Lib.hid hf02
  have HG := Lib.hid (show g = some g' ∨ w.heap.size ≤ g' from hg.imp id (fun h => by omega))
  have HB1 := Lib.hid (And.intro b1 (And.intro b2 (And.intro b3 b4)))
  have hl5 : L ≤ 50000 := by omega
  have HLL := Lib.hid hll
  clear HE2 hf2 hf02 hf13 hdo3 hro3 hbx3 hnew hd2 hr2 hpg hrg hgg hbg hg hll hgl hs1 hz2 hz3 HX HI HF12 b1 b2 b3 b4
  obtain ⟨d0, d1, d2, d3, d4⟩ := HD2.out.cells
  obtain ⟨r0, r1, r2, r3, r4⟩ := HDO.out.cells
  have bx0 := cell_of_one HBX2.out
  go_wp2
  clear d0 d1 d2 d3 d4 r0 r1 r2 r3 r4 bx0
  go_loopw [6] (fun i wr => MHRel G fo s off omn omx g' L cp w3 wr i) (fun i _ => (intOf i - omn + 1).toNat)
  case atStart => exact ⟨omx, rfl, by omega, Int.le_refl _, HR2.out.ext (fun j _ => by rw [accH_zero _ _ _ _ HZO.out.2]), Fr.refl _ _⟩
  case round =>
    obtain ⟨x, rfl, hx1, hx2, hrow, hfr⟩ := hrel
    obtain ⟨d0, d1, d2, d3, d4⟩ := (HD2.out.fr hfr HPG.out).cells
    obtain ⟨r0, r1, r2, r3, r4⟩ := (HDO.out.fr hfr (fun h => HRG.out h)).cells
    have bx0 := cell_of_one (hfr.heap HBX2.out (fun h => HBG.out h))
    by_cases c1 : s < x
    · by_cases c2 : omn ≤ x
      · obtain ⟨j, hj⟩ : ∃ j : Nat, (L : Int) - 1 = (j : Int) := ⟨((L : Int) - 1).toNat, by have := HB1.out; omega⟩
        have hjx : off + ((j : Nat) : Int) = min x s := by have := HOFF.out; have := HB1.out; have := HLL.out; omega
        have hjL : j < L := by omega
        have hjL' : (j : Int) < (L : Int) := by omega
        obtain ⟨k, hk⟩ : ∃ k : Nat, x - offo = (k : Int) := ⟨(x - offo).toNat, by omega⟩
        have hkL : k < Lo := by omega
        have hkL' : (k : Int) < (Lo : Int) := by omega
        have hcell := hrow.cell j hjL
        have hfree := hrow.free j
        rw [hjx] at hcell
        have hoc := (HRO.out.fr hfr (fun h => HGG.out h)).cell k hkL
        rw [show offo + (k : Int) = x from by omega] at hoc
        have hadd := fun w : World => run_float_arith (P := Tryz.prog) w .add 30 .f64 _ _ _ (nf_add (accH G fo s x (min x s)) (fo x) (HSM.out x (min x s)))
        have i2 : IntKind.i64.wrap (x - offo) = (k : Int) := by rw [IntKind.wrap_i64]; omega
        have i3 : IntKind.i64.wrap (x - 1) = x - 1 := by rw [IntKind.wrap_i64]; omega
        have i1 : IntKind.i64.wrap ((L : Int) - 1) = (j : Int) := by rw [IntKind.wrap_i64]; omega
        obtain ⟨u, hu⟩ : ∃ u, u = nf (accH G fo s x (min x s)) := ⟨_, rfl⟩
        obtain ⟨v, hv⟩ : ∃ v, v = nf (fo x) := ⟨_, rfl⟩
        obtain ⟨y, hy⟩ : ∃ y, y = nf (accH G fo s x (min x s) + fo x) := ⟨_, rfl⟩
        rw [← hu] at hcell hadd
        rw [← hv] at hoc hadd
        rw [← hy] at hadd
        have HY := Lib.hid hy
        have HO := Lib.hid hrow
        have HFR := Lib.hid hfr
        have HJX := Lib.hid hjx
        clear hrow hfr hjx hu hv hy hk hj
        go_wp2
        go_still_tail 30, (by kernel_rfl)
        show wpList _ _ _ _ _ wr.drew
        go_wp2
        go_roundw
        case rel =>
          have hset := HO.out.drew.set j (accH G fo s x (min x s) + fo x) hjL
          rw [← HY.out] at hset
          have hnx : Row (wr.drew.setCell ⟨g', j, none⟩ (.float .f64 y)) g' L cp (fun j => accH G fo s (x - 1) (off + j)) := hset.ext (fun i hi => by
            have hjx := HJX.out
            rw [accH_step _ _ _ _ (by omega) (by omega) hs2]
            by_cases hij : (i : Int) = (j : Nat)
            · rw [if_pos (by omega), if_pos (by omega), show off + (i : Int) = min x s from by omega]
            · rw [if_neg (by omega), if_neg (by omega)])
          have hfn : Fr (fun b => b = g') w3 (wr.drew.setCell ⟨g', j, none⟩ (.float .f64 y)) := HFR.out.drew.setCell (p := ⟨g', j, none⟩) (fun _ => rfl) _
          exact ⟨x - 1, by go_num, by omega, by omega, hnx, hfn⟩
        case measure => simp [intOf]; omega
      · obtain rfl : x = omn - 1 := by omega
        go_wp2
        clear d0 d1 d2 d3 d4 r0 r1 r2 r3 r4 bx0
        go_loopw [6] (fun i wr => MHRel3 G fo s off (omn - 1) g' L cp w3 wr i) (fun _ _ => 0)
        case atStart => exact ⟨rfl, hrow, hfr⟩
        case round =>
          clear hrow hfr
          obtain ⟨rfl, hrow, hfr⟩ := hrel
          obtain ⟨d0, d1, d2, d3, d4⟩ := (HD2.out.fr hfr HPG.out).cells
          obtain ⟨r0, r1, r2, r3, r4⟩ := (HDO.out.fr hfr (fun h => HRG.out h)).cells
          have bx0 := cell_of_one (hfr.heap HBX2.out (fun h => HBG.out h))
          have hadd := fun w : World => run_float_arith (P := Tryz.prog) w .add 30 .f64 _ _ _ (nf_add n no HSN.out)
          have f1 := (HD2.out.fr hfr HPG.out).free 1
          obtain ⟨c1, hc1⟩ : ∃ c1, c1 = nf n := ⟨_, rfl⟩
          obtain ⟨c2, hc2⟩ : ∃ c2, c2 = nf no := ⟨_, rfl⟩
          obtain ⟨c3, hc3⟩ : ∃ c3, c3 = nf (n + no) := ⟨_, rfl⟩
          rw [← hc1] at d1 hadd
          rw [← hc2] at r1 hadd
          rw [← hc3] at hadd
          have HC3 := Lib.hid hc3
          have HO := Lib.hid hrow
          have HFR := Lib.hid hfr
          clear hrow hfr hc1 hc2 hc3
          go_wp2
          go_still_tail 14, (by kernel_rfl)
          show wpList _ _ _ _ _ wr.drew
          go_wp2
          go_end0
          have hd9 := ((HD2.out.fr HFR.out HPG.out).drew).set1 (.float .f64 c3)
          have hr9 : Row (wr.drew.setCell ⟨p, 1, none⟩ (.float .f64 c3)) g' L cp (fun j => (fun i => G i + sqH fo s i) (off + j)) := by
            have h := (HO.out.drew.other (p := ⟨p, 1, none⟩) HPG.out (.float .f64 c3))
            rw [accH_end G fo s omn HZO.out.1] at h
            exact h
          rw [HC3.out] at hd9 hr9
          refine ⟨g', L, cp, rfl, ⟨off, by rw [HC3.out]; exact hd9, by rw [HC3.out]; exact hr9, HB1.out.1, HB1.out.2.1, HB1.out.2.2.1, HB1.out.2.2.2⟩, HPG.out, HLL.out, ?_, HG.out⟩
          refine ((HF2.out.trans HFR.out.drew (fun _ _ h => h) (fun i hi h => ?_))).setCell (p := ⟨p, 1, none⟩) (fun _ => .inl rfl) _
          rcases HG.out with h2 | h2
          · right; rw [h2, h]
          · omega
    · have hsx : x ≤ s ∨ x = omn - 1 := .inl (by omega)
      replace c1 := Int.not_lt.1 c1
      go_wp2
      clear d0 d1 d2 d3 d4 r0 r1 r2 r3 r4 bx0
      go_loopw [6] (fun i wr => MHRel2 G fo s off omn omx g' L cp w3 wr i) (fun i _ => (intOf i - omn + 1).toNat)
      case atStart => exact ⟨x, rfl, hx1, hx2, hsx, hrow, hfr⟩
      case round =>
        clear hrow hfr hx1 hx2 hsx
        obtain ⟨x, rfl, hx1, hx2, hsx, hrow, hfr⟩ := hrel
        obtain ⟨d0, d1, d2, d3, d4⟩ := (HD2.out.fr hfr HPG.out).cells
        obtain ⟨r0, r1, r2, r3, r4⟩ := (HDO.out.fr hfr (fun h => HRG.out h)).cells
        have bx0 := cell_of_one (hfr.heap HBX2.out (fun h => HBG.out h))
        by_cases c2 : omn < x
        · obtain ⟨j, hj⟩ : ∃ j : Nat, x - off = (j : Int) := ⟨(x - off).toNat, by have := HB1.out; omega⟩
          have hjx : off + ((j : Nat) : Int) = min x s := by omega
          have hjL : j < L := by have := HB1.out; omega
          have hjL' : (j : Int) < (L : Int) := by omega
          obtain ⟨k, hk⟩ : ∃ k : Nat, x - offo = (k : Int) := ⟨(x - offo).toNat, by omega⟩
          have hkL : k < Lo := by omega
          have hkL' : (k : Int) < (Lo : Int) := by omega
          have hcell := hrow.cell j hjL
          have hfree := hrow.free j
          rw [hjx] at hcell
          have hoc := (HRO.out.fr hfr (fun h => HGG.out h)).cell k hkL
          rw [show offo + (k : Int) = x from by omega] at hoc
          have hadd := fun w : World => run_float_arith (P := Tryz.prog) w .add 30 .f64 _ _ _ (nf_add (accH G fo s x (min x s)) (fo x) (HSM.out x (min x s)))
          have i2 : IntKind.i64.wrap (x - offo) = (k : Int) := by rw [IntKind.wrap_i64]; omega
          have i3 : IntKind.i64.wrap (x - 1) = x - 1 := by rw [IntKind.wrap_i64]; omega
          have i1 : IntKind.i64.wrap (x - off) = (j : Int) := by rw [IntKind.wrap_i64]; omega
          obtain ⟨u, hu⟩ : ∃ u, u = nf (accH G fo s x (min x s)) := ⟨_, rfl⟩
          obtain ⟨v, hv⟩ : ∃ v, v = nf (fo x) := ⟨_, rfl⟩
          obtain ⟨y, hy⟩ : ∃ y, y = nf (accH G fo s x (min x s) + fo x) := ⟨_, rfl⟩
          rw [← hu] at hcell hadd
          rw [← hv] at hoc hadd
          rw [← hy] at hadd
          have HY := Lib.hid hy
          have HO := Lib.hid hrow
          have HFR := Lib.hid hfr
          have HJX := Lib.hid hjx
          clear hrow hfr hjx hu hv hy hk hj
          go_wp2
          go_still_tail 30, (by kernel_rfl)
          show wpList _ _ _ _ _ wr.drew
          go_wp2
          go_roundw
          case rel =>
            have hset := HO.out.drew.set j (accH G fo s x (min x s) + fo x) hjL
            rw [← HY.out] at hset
            have hnx : Row (wr.drew.setCell ⟨g', j, none⟩ (.float .f64 y)) g' L cp (fun j => accH G fo s (x - 1) (off + j)) := hset.ext (fun i hi => by
              have hjx := HJX.out
              rw [accH_step _ _ _ _ (by omega) (by omega) hs2]
              by_cases hij : (i : Int) = (j : Nat)
              · rw [if_pos (by omega), if_pos (by omega), show off + (i : Int) = min x s from by omega]
              · rw [if_neg (by omega), if_neg (by omega)])
            have hfn : Fr (fun b => b = g') w3 (wr.drew.setCell ⟨g', j, none⟩ (.float .f64 y)) := HFR.out.drew.setCell (p := ⟨g', j, none⟩) (fun _ => rfl) _
            exact ⟨x - 1, by go_num, by omega, by omega, by omega, hnx, hfn⟩
          case measure => simp [intOf]; omega
        · replace c2 := Int.not_lt.1 c2
          by_cases c3 : x = omn
          · have hsm := HSM.out
            subst c3
            obtain ⟨j, hj⟩ : ∃ j : Nat, x - off = (j : Int) := ⟨(x - off).toNat, by have := HB1.out; omega⟩
            have hjx : off + ((j : Nat) : Int) = min x s := by omega
            have hjL : j < L := by have := HB1.out; omega
            have hjL' : (j : Int) < (L : Int) := by omega
            obtain ⟨k, hk⟩ : ∃ k : Nat, x - offo = (k : Int) := ⟨(x - offo).toNat, by omega⟩
            have hkL : k < Lo := by omega
            have hkL' : (k : Int) < (Lo : Int) := by omega
            have hcell := hrow.cell j hjL
            have hfree := hrow.free j
            rw [hjx] at hcell
            have hoc := (HRO.out.fr hfr (fun h => HGG.out h)).cell k hkL
            rw [show offo + (k : Int) = x from by omega] at hoc
            have hadd := fun w : World => run_float_arith (P := Tryz.prog) w .add 30 .f64 _ _ _ (nf_add (accH G fo s x (min x s)) (fo x) (HSM.out x (min x s)))
            have i2 : IntKind.i64.wrap (x - offo) = (k : Int) := by rw [IntKind.wrap_i64]; omega
            have i3 : IntKind.i64.wrap (x - 1) = x - 1 := by rw [IntKind.wrap_i64]; omega
            have i1 : IntKind.i64.wrap (x - off) = (j : Int) := by rw [IntKind.wrap_i64]; omega
            obtain ⟨u, hu⟩ : ∃ u, u = nf (accH G fo s x (min x s)) := ⟨_, rfl⟩
            obtain ⟨v, hv⟩ : ∃ v, v = nf (fo x) := ⟨_, rfl⟩
            obtain ⟨y, hy⟩ : ∃ y, y = nf (accH G fo s x (min x s) + fo x) := ⟨_, rfl⟩
            rw [← hu] at hcell hadd
            rw [← hv] at hoc hadd
            rw [← hy] at hadd
            have HY := Lib.hid hy
            have HO := Lib.hid hrow
            have HFR := Lib.hid hfr
            have HJX := Lib.hid hjx
            clear hrow hfr hjx hu hv hy hk hj
            go_wp2
            go_still_tail 30, (by kernel_rfl)
            show wpList _ _ _ _ _ wr.drew
            go_wp2
            have hset := HO.out.drew.set j (accH G fo s x (min x s) + fo x) hjL
            rw [← HY.out] at hset
            have hnx : Row (wr.drew.setCell ⟨g', j, none⟩ (.float .f64 y)) g' L cp (fun j => accH G fo s (x - 1) (off + j)) := hset.ext (fun i hi => by
              have hjx := HJX.out
              rw [accH_step _ _ _ _ (by omega) (by omega) hs2]
              by_cases hij : (i : Int) = (j : Nat)
              · rw [if_pos (by omega), if_pos (by omega), show off + (i : Int) = min x s from by omega]
              · rw [if_neg (by omega), if_neg (by omega)])
            have hfn : Fr (fun b => b = g') w3 (wr.drew.setCell ⟨g', j, none⟩ (.float .f64 y)) := HFR.out.drew.setCell (p := ⟨g', j, none⟩) (fun _ => rfl) _
            obtain ⟨ww, hww⟩ : ∃ ww, ww = (wr.setCell ⟨g', j, none⟩ (.float .f64 y)).drew := ⟨_, rfl⟩
            rw [← hww]
            replace hnx : Row ww g' L cp (fun j => accH G fo s (x - 1) (off + j)) := by rw [hww]; exact hnx
            replace hfn : Fr (fun b => b = g') w3 ww := by rw [hww]; exact hfn
            clear hww hset d0 d1 d2 d3 d4 r0 r1 r2 r3 r4 bx0 hcell hfree hoc hadd HO HFR HY HJX
            obtain ⟨d0, d1, d2, d3, d4⟩ := (HD2.out.fr hfn HPG.out).cells
            obtain ⟨r0, r1, r2, r3, r4⟩ := (HDO.out.fr hfn (fun h => HRG.out h)).cells
            have bx0 := cell_of_one (hfn.heap HBX2.out (fun h => HBG.out h))
            have hadd := fun w : World => run_float_arith (P := Tryz.prog) w .add 30 .f64 _ _ _ (nf_add n no HSN.out)
            have f1 := (HD2.out.fr hfn HPG.out).free 1
            obtain ⟨c1, hc1⟩ : ∃ c1, c1 = nf n := ⟨_, rfl⟩
            obtain ⟨c2, hc2⟩ : ∃ c2, c2 = nf no := ⟨_, rfl⟩
            obtain ⟨c3, hc3⟩ : ∃ c3, c3 = nf (n + no) := ⟨_, rfl⟩
            rw [← hc1] at d1 hadd
            rw [← hc2] at r1 hadd
            rw [← hc3] at hadd
            have HC3 := Lib.hid hc3
            have HO := Lib.hid hnx
            have HFR := Lib.hid hfn
            clear hnx hfn hc1 hc2 hc3
            go_wp2
            go_still_tail 14, (by kernel_rfl)
            show wpList _ _ _ _ _ ww.drew
            go_wp2
            go_end0
            have hd9 := ((HD2.out.fr HFR.out HPG.out).drew).set1 (.float .f64 c3)
            have hr9 : Row (ww.drew.setCell ⟨p, 1, none⟩ (.float .f64 c3)) g' L cp (fun j => (fun i => G i + sqH fo s i) (off + j)) := by
              have h := (HO.out.drew.other (p := ⟨p, 1, none⟩) HPG.out (.float .f64 c3))
              rw [accH_end G fo s x HZO.out.1] at h
              exact h
            rw [HC3.out] at hd9 hr9
            refine ⟨g', L, cp, rfl, ⟨off, by rw [HC3.out]; exact hd9, by rw [HC3.out]; exact hr9, HB1.out.1, HB1.out.2.1, HB1.out.2.2.1, HB1.out.2.2.2⟩, HPG.out, HLL.out, ?_, HG.out⟩
            refine ((HF2.out.trans HFR.out.drew (fun _ _ h => h) (fun i hi h => ?_))).setCell (p := ⟨p, 1, none⟩) (fun _ => .inl rfl) _
            rcases HG.out with h2 | h2
            · right; rw [h2, h]
            · omega
          · have hxe : x = omn - 1 := by omega
            rw [hxe] at hrow
            have hadd := fun w : World => run_float_arith (P := Tryz.prog) w .add 30 .f64 _ _ _ (nf_add n no HSN.out)
            have f1 := (HD2.out.fr hfr HPG.out).free 1
            obtain ⟨c1, hc1⟩ : ∃ c1, c1 = nf n := ⟨_, rfl⟩
            obtain ⟨c2, hc2⟩ : ∃ c2, c2 = nf no := ⟨_, rfl⟩
            obtain ⟨c3, hc3⟩ : ∃ c3, c3 = nf (n + no) := ⟨_, rfl⟩
            rw [← hc1] at d1 hadd
            rw [← hc2] at r1 hadd
            rw [← hc3] at hadd
            have HC3 := Lib.hid hc3
            have HO := Lib.hid hrow
            have HFR := Lib.hid hfr
            clear hrow hfr hc1 hc2 hc3
            go_wp2
            go_still_tail 14, (by kernel_rfl)
            show wpList _ _ _ _ _ wr.drew
            go_wp2
            go_end0
            have hd9 := ((HD2.out.fr HFR.out HPG.out).drew).set1 (.float .f64 c3)
            have hr9 : Row (wr.drew.setCell ⟨p, 1, none⟩ (.float .f64 c3)) g' L cp (fun j => (fun i => G i + sqH fo s i) (off + j)) := by
              have h := (HO.out.drew.other (p := ⟨p, 1, none⟩) HPG.out (.float .f64 c3))
              rw [accH_end G fo s omn HZO.out.1] at h
              exact h
            rw [HC3.out] at hd9 hr9
            refine ⟨g', L, cp, rfl, ⟨off, by rw [HC3.out]; exact hd9, by rw [HC3.out]; exact hr9, HB1.out.1, HB1.out.2.1, HB1.out.2.2.1, HB1.out.2.2.2⟩, HPG.out, HLL.out, ?_, HG.out⟩
            refine ((HF2.out.trans HFR.out.drew (fun _ _ h => h) (fun i hi h => ?_))).setCell (p := ⟨p, 1, none⟩) (fun _ => .inl rfl) _
            rcases HG.out with h2 | h2
            · right; rw [h2, h]
            · omega

end Go.Proofs.YtnmbjalojgccmaaGreat
end
/-
  The merge of the collapsing stores, one more case. (Printed by gen_mergeh.py.)
-/
section
namespace Go.Proofs.YtnmbjalojgccmaaGreat
open Go.RowKit

theorem mergeH_core (G fo : Int → Nat) (n no M : Nat) (mn mx na s omn omx : Int) (p r go Lo cpo : Nat) (g : Option Nat) (rest resto : List Value) (w : World) (d3 : w.cell? ⟨p, 3, none⟩ = some (.int .i64 mn)) (d4 : w.cell? ⟨p, 4, none⟩ = some (.int .i64 mx)) (hp : p < w.heap.size)
   (hX : ∀ w2, Fr (fun _ => False) w w2 → Calls Tryz.prog 343 #[.pointer (some ⟨p, 0, none⟩), .int .i64 omn, .int .i64 omx] w2 fun e w' => ExtH G (.float .f64 (nf n)) M na s p g rest 180 w2 e w')
   (hI : mn ≤ omn → omx ≤ mx → ∀ w2, Fr (fun _ => False) w w2 → ExtH G (.float .f64 (nf n)) M na s p g rest 180 w2 (.returned (.tuple #[])) w2)
   (hoff : s < omx → s = na + M - 1) (hsb : na ≤ s) (hnb : na ≤ omn) (hle : omn ≤ omx) (hlo : -10000 ≤ omn) (hhi : omx ≤ 10000) (hs2 : s ≤ 10000) (hnb2 : -20000 ≤ na) (hM5 : M ≤ 50000)
   (hdo : DenseOk fo (.float .f64 (nf no)) omn omx r go Lo cpo resto 180 w) (hz : (∀ i, i < omn → fo i = 0) ∧ ∀ i, omx < i → fo i = 0) (hno : 0 < no) (hsn : n + no < 9007199254740992) (hsm : ∀ x i, accH G fo s x i + fo x < 9007199254740992)
   (hrp : r ≠ p) (hrg : g ≠ some r) (hgp : go ≠ p) (hgg : g ≠ some go) (hgl : ∀ x, g = some x → x < w.heap.size) :
    Calls Tryz.prog 340 #[.pointer (some ⟨p, 0, none⟩), .iface 138 (.pointer (some ⟨r, 0, none⟩))] w fun e w' => MergedH (fun i => G i + sqH fo s i) (n + no) M na s p g rest 180 w e w' := by
  by_cases k1 : omn < mn
  · exact mergeH_coreA G fo n no M mn mx na s omn omx p r go Lo cpo g rest resto w d3 d4 hp hX hI hoff hsb hnb hle hlo hhi hs2 hnb2 hM5 hdo hz hno hsn hsm hrp hrg hgp hgg hgl k1
  · by_cases k2 : mx < omx
    · exact mergeH_coreB G fo n no M mn mx na s omn omx p r go Lo cpo g rest resto w d3 d4 hp hX hI hoff hsb hnb hle hlo hhi hs2 hnb2 hM5 hdo hz hno hsn hsm hrp hrg hgp hgg hgl (by omega) k2
    · exact mergeH_coreC G fo n no M mn mx na s omn omx p r go Lo cpo g rest resto w d3 d4 hp hX hI hoff hsb hnb hle hlo hhi hs2 hnb2 hM5 hdo hz hno hsn hsm hrp hrg hgp hgg hgl (by omega) (by omega)
end Go.Proofs.YtnmbjalojgccmaaGreat
end
/-
  Of one kind: a store that collapses its highest bins.
-/
section
namespace Go.Proofs.YtnmbjalojgccmaaGreat
open Go.RowKit

theorem sqH_plus (a b : Int → Nat) (hi : Int) (h1 : hi ≤ 10001) : sqH (fun i => a i + b i) hi = fun i => sqH a hi i + sqH b hi i := by
  funext i
  have e1 := cum_le_tot a hi h1
  have e2 := cum_le_tot b hi h1
  have e3 : tot2 (fun i => a i + b i) = tot2 a + tot2 b := cum_plus a b 10001
  have e4 := cum_plus a b hi
  unfold sqH
  rw [e3, e4]
  split
  · rfl
  · split
    · omega
    · rfl
theorem tot2_downTo (f : Int → Nat) (x : Int) : tot2 (downTo f x) ≤ tot2 f := by
  have h : f = fun i => downTo f x i + (f i - downTo f x i) := by
    funext i
    show f i = (if x < i then f i else 0) + (f i - if x < i then f i else 0)
    split <;> omega
  have h2 : tot2 f = tot2 (downTo f x) + tot2 (fun i => f i - downTo f x i) := by
    conv => lhs; rw [h]
    exact cum_plus _ _ _
  omega
theorem sqH_le_tot {f : Int → Nat} (hz : ∀ i, i < -10000 ∨ 10000 < i → f i = 0) {s : Int} (h1 : -10000 ≤ s) (h2 : s ≤ 10000) (i : Int) : sqH f s i ≤ tot2 f := by
  by_cases c : -10000 ≤ i ∧ i ≤ 10000
  · have := one_le_tot (sqH f s) i c.1 c.2
    rw [tot2_sqH f s h1 h2] at this; exact this
  · unfold sqH
    split
    · omega
    · split
      · omega
      · rw [hz i (by omega)]; omega
theorem sqH_pos {f : Int → Nat} {i s : Int} (h0 : 0 < f i) (h1 : -10000 ≤ s) (h2 : s ≤ i) (h3 : i ≤ 10000) : 0 < sqH f s s := by
  unfold sqH
  rw [if_neg (by omega), if_pos rfl]
  have e1 := cum_succ f i (by omega)
  have e2 := cum_mono f s i h2
  have e3 := cum_le_tot f (i + 1) (by omega)
  omega
theorem sqH_bot {f : Int → Nat} {hi i : Int} (h0 : 0 < f i) (h1 : -10000 ≤ i) (h2 : i ≤ hi) (h3 : i ≤ 10000) : 0 < sqH f hi i := by
  by_cases h : i = hi
  · subst h; exact sqH_pos h0 h1 (Int.le_refl _) h3
  · unfold sqH
    rw [if_neg (by omega), if_neg h]; exact h0

/-- What is in the row behind the merge. -/
theorem merged_rowH {F Fo A B : Int → Nat} {hi0 hi nb s omx : Int} (hA : ∀ i, 10000 < i → A i = 0) (hBz : ∀ i, 10000 < i → B i = 0) (hF : F = sqH A hi0) (hh0 : -10000 ≤ hi) (hhi : hi ≤ hi0) (hB : Fo = B) (hs : s = min nb hi) (hz : ∀ i, omx < i → Fo i = 0) (hnb : omx ≤ nb) (hb : -10000 ≤ nb) :
    (fun i => sqH F hi i + sqH Fo s i) = sqH (fun i => A i + B i) hi := by
  have e : sqH Fo s = sqH Fo hi := by
    by_cases c : hi ≤ nb
    · rw [hs, show min nb hi = hi from by omega]
    · rw [hs, show min nb hi = nb from by omega, sqH_none Fo nb hb (fun i hi => hz i (by omega)) (fun i h => by rw [hB]; exact hBz i h), sqH_none Fo hi hh0 (fun i hi => hz i (by omega)) (fun i h => by rw [hB]; exact hBz i h)]
  rw [hF, sqH_sqH2 hA hh0 hhi, e, hB]
  by_cases c : hi ≤ 10001
  · rw [sqH_plus A B hi c]
  · rw [sqH_over (by omega) hA, sqH_over (by omega) hBz, sqH_over (by omega) (fun i hi => by rw [hA i hi, hBz i hi])]

theorem mergeHH_any (most om : Int) (xs ys : Bins) (S R : Nat → Prop) (p r : Nat) (w : World) (h : (kindH).St most xs S p w) (ho : (kindH).St om ys R r w) (hd : ∀ b, S b → ¬ R b) (hx : xs ≠ []) (hy : ys ≠ []) (hfo : Few 4 om ys) (hf : Fits2 4 most xs (keptB 4 om ys)) :
    Calls Tryz.prog 340 #[.pointer (some ⟨p, 0, none⟩), .iface 138 (.pointer (some ⟨r, 0, none⟩))] w fun e w' => MergedTo kindH kindH most om xs ys S R p r w e w' := by
  obtain ⟨ks, hks⟩ : ∃ ks, ks = keptB 4 om ys := ⟨_, rfl⟩
  have hkt : tot ks = tot ys := by rw [hks]; exact kept_tot 4 om ys
  have hO : ∀ (w' : World) (U : Nat → Prop), Fr U w w' → (∀ b, R b → ¬ U b) → StH om ys R r w' := fun w' U hfr hn => (kindH).fr om ys R r U w w' ho hfr (fun k hk => hn k hk)
  rw [← hks] at hf
  have htt := hf.tot
  have hxi := hf.inR
  have hyi := hfo.inR
  have hki := hf.inR2
  obtain ⟨m, rfl, hm1, hm2, h⟩ := h
  obtain ⟨mo, rfl, hmo1, hmo2, ho⟩ := ho
  rcases h with ⟨h1, _, _⟩ | ⟨col, mn, mx, g, L, cp, h1, hbot, hmn, hmx, hS⟩
  · exact absurd h1 hx
  rcases ho with ⟨g1, _, _⟩ | ⟨colo, omn, omx, go, Lo, cpo, g1, gbot, gmn, gmx, gS⟩
  · exact absurd g1 hy
  have hkc : cntB ks = sqH (cntB ys) (omn + mo - 1) := by rw [hks]; exact cnt_kept4 hyi hfo.pos gmn gbot
  have hall : InR (xs ++ ks) := InR.append hxi hki
  have hta : tot (xs ++ ks) = tot xs + tot ys := by rw [tot_append, hkt]
  have hcc : cntB (xs ++ ks) = fun i => cntB xs i + cntB ks i := funext (cntB_append xs ks)
  have hzh : ∀ j, 10000 < j → cntB xs j = 0 := fun j hj => cntB_inR hxi j (.inr hj)
  obtain ⟨F, hF⟩ : ∃ F, F = sqH (cntB xs) (mn + m - 1) := ⟨_, rfl⟩
  obtain ⟨Fo, hFo⟩ : ∃ Fo, Fo = sqH (cntB ys) (omn + mo - 1) := ⟨_, rfl⟩
  rw [← hF] at h1 hmx
  rw [← hFo] at g1 gmx hkc
  obtain ⟨na, hna⟩ : ∃ na, na = min omn mn := ⟨_, rfl⟩
  obtain ⟨nb, hnb⟩ : ∃ nb, nb = max omx mx := ⟨_, rfl⟩
  obtain ⟨hi, hhi⟩ : ∃ hi, hi = na + (m : Int) - 1 := ⟨_, rfl⟩
  obtain ⟨s, hs⟩ : ∃ s, s = min nb hi := ⟨_, rfl⟩
  have l1 := h1.lo
  have l2 := h1.hi
  have l3 := g1.lo
  have l4 := g1.hi
  have l5 := h1.le
  have l6 := g1.le
  have gz := g1.zero
  have hz := h1.zero
  have hrow : (fun i => sqH F hi i + sqH Fo s i) = sqH (cntB (xs ++ ks)) hi := by
    rw [hcc]
    exact merged_rowH hzh (fun i hi => cntB_inR hki i (.inr hi)) hF (by omega) (by omega) hkc.symm hs (fun i hi => gz i (.inr hi)) (by omega) (by omega)
  have hFot : tot2 Fo = tot ys := by rw [hFo, tot2_sqH2 (fun j hj => cntB_inR hyi j (.inr hj)) (by omega), tot2_cnt hyi]
  have hFt : tot2 F = tot xs := by rw [hF, tot2_sqH2 hzh (by omega), tot2_cnt hxi]
  have hFz : ∀ i, i < -10000 ∨ 10000 < i → F i = 0 := fun i hi => hz i (by omega)
  have hFoz : ∀ i, i < -10000 ∨ 10000 < i → Fo i = 0 := fun i hi => gz i (by omega)
  have hsm : ∀ x i, accH (sqH F hi) Fo s x i + Fo x < 9007199254740992 := fun x i => by
    have e1 : sqH F hi i ≤ tot xs := by
      by_cases c : hi ≤ 10000
      · rw [← hFt]; exact sqH_le_tot hFz (by omega) c i
      · rw [sqH_over (by omega) (fun i hi => hFz i (.inr hi))]
        by_cases c : -10000 ≤ i ∧ i ≤ 10000
        · rw [← hFt]; exact one_le_tot F i c.1 c.2
        · rw [hFz i (by omega)]; omega
    have e2 : sqH (downTo Fo x) s i ≤ tot ys := by
      have := sqH_le_tot (f := downTo Fo x) (fun i hi => by show (if x < i then Fo i else 0) = 0; rw [hFoz i hi]; split <;> rfl) (s := s) (by omega) (by omega) i
      have := tot2_downTo Fo x
      omega
    have e3 : Fo x ≤ tot ys := by
      by_cases c : -10000 ≤ x ∧ x ≤ 10000
      · rw [← hFot]; exact one_le_tot Fo x c.1 c.2
      · rw [hFoz x (by omega)]; omega
    show sqH F hi i + sqH (downTo Fo x) s i + Fo x < _
    omega
  have hpS : S p := (hS p).2 (.inl rfl)
  have hgS : S g := (hS g).2 (.inr rfl)
  have hrR : R r := (gS r).2 (.inl rfl)
  have hgR : R go := (gS go).2 (.inr rfl)
  obtain ⟨off, hdd, hrw, o1, o2, o3, o4⟩ := id h1.ok
  have hlen := h1.len
  have h1f : ∀ w2, Fr (fun _ => False) w w2 → LowPre F (tot xs) m col mn mx p g L cp 180 w2 := fun w2 hfr => { h1 with ok := h1.ok.fr hfr (fun h => h) (fun h => h) }
  have HH := mergeH_core (sqH F hi) Fo (tot xs) (tot ys) m mn mx na s omn omx p r go Lo cpo (some g) (lrest m (col || decide ((m : Int) < nb - na + 1))) (lrest mo colo) w hdd.cells.2.2.2.1 hdd.cells.2.2.2.2 hdd.lt
    (fun w2 hfr => by rw [hs]; exact extendHF_any F (tot xs) m col omn omx mn mx na nb hi p g L cp 180 w2 (h1f w2 hfr) l3 l4 hna hnb hhi)
    (fun k1 k2 w2 hfr => by
      rw [hs]
      exact AdjustedH.of_in (L := L) (cp := cp) (by rw [show na = mn from by omega, show nb = mx from by omega]; exact (h1f w2 hfr).ok) h1.ne hlen (Fr.refl _ _) (fun i hi => hz i (.inr (by omega))) (by omega) (by omega) hm1 (by omega) hhi)
    (by omega) (by omega) (by omega) l6 l3 l4 (by omega) (by omega) (by omega) g1.ok ⟨fun i hi => gz i (.inl hi), fun i hi => gz i (.inr hi)⟩ g1.pos (by omega) hsm
    (fun h => hd p hpS (by rw [← h]; exact hrR)) (fun h => hd g hgS (by rw [Option.some.inj h]; exact hrR)) (fun h => hd p hpS (by rw [← h]; exact hgR)) (fun h => hd g hgS (by rw [Option.some.inj h]; exact hgR)) (fun x h => by rw [← Option.some.inj h]; exact hrw.lt)
  refine HH.mono ?_
  rintro e w' ⟨g', L', cp', rfl, hok, hpg, hL, hfr, hg⟩
  rw [hrow] at hok
  have hfS : Fr S w w' := hfr.mono (fun k _ hk => hk.elim (fun h => (hS k).2 (.inl h)) (fun h => (hS k).2 (.inr (Option.some.inj h).symm)))
  have hat : ∀ i, sqH (cntB (xs ++ ks)) hi i = sqH F hi i + sqH Fo s i := fun i => (congrFun hrow i).symm
  have hFon : 0 < Fo omn := by rw [hFo]; exact sqH_bot gmn l3 (by omega) (by omega)
  have hsq : ∀ (f : Int → Nat) (hi i : Int), sqH f hi i = if hi < i then 0 else if i = hi then tot2 f - cum f hi else f i := fun _ _ _ => rfl
  have hsn : hi ≤ nb ∨ (∀ i, sqH F hi i = F i) := by
    by_cases c : hi ≤ nb
    · exact .inl c
    · right
      rw [sqH_none F hi (by omega) (fun i hi => hz i (by omega)) (fun i hi => hz i (by omega))]
      exact fun _ => rfl
  rw [hhi] at hok
  refine ⟨rfl, hO w' S hfS (fun b hb hs => hd b hs hb), fun k => k = p ∨ k = g', ⟨m, rfl, hm1, hm2, .inr ⟨_, na, s, g', L', cp', ⟨by rw [← hks, hta]; exact hok, hpg, fun i hi => ?_, by omega, by rw [← hks, hta]; have := h1.pos; omega, by rw [← hks, hta]; omega, ?_, by omega, by omega, hL, hm1, hm2, fun e => ?_⟩, fun i hi => ?_, ?_, ?_, fun k => Iff.rfl⟩⟩, hfS.mono (fun _ _ h => .inl h), fun k hk => ?_⟩
  · rename_i hi0
    rw [← hks, ← hhi, hat]
    rcases hi with hi | hi
    · have e2 : sqH Fo s i = 0 := by rw [hsq, if_neg (by omega), if_neg (by omega)]; exact gz i (.inl (by omega))
      have e1 : sqH F hi0 i = 0 := by rw [hsq, if_neg (by omega), if_neg (by omega)]; exact hz i (.inl (by omega))
      omega
    · have e2 : sqH Fo s i = 0 := by rw [hsq, if_pos hi]
      have e1 : sqH F hi0 i = 0 := by
        rcases hsn with c | c
        · rw [hsq, if_pos (by omega)]
        · rw [c]; by_cases c2 : nb < i
          · exact hz i (.inr (by omega))
          · have : hi0 ≤ nb := by omega
            rw [← c, hsq, if_pos (by omega)]
      omega
  · rw [← hks, ← hhi, tot2_sqH2 (fun j hj => cntB_inR hall j (.inr hj)) (by omega), tot2_cnt hall]
  · rcases Bool.or_eq_true_iff.1 e with e | e
    · have := h1.full e; omega
    · have := of_decide_eq_true e; omega
  · rw [← hks, hcc]
    show cntB xs i + cntB ks i = 0
    rw [hbot i (by omega), hkc, gz i (.inl (by omega))]
  · rw [← hks, hcc]
    show 0 < cntB xs na + cntB ks na
    rw [hkc]
    by_cases c : omn ≤ mn
    · rw [show na = omn from by omega]; omega
    · rw [show na = mn from by omega]; omega
  · rw [← hks, ← hhi, hat]
    by_cases c : hi ≤ nb
    · have e : s = hi := by omega
      rw [e]
      by_cases c2 : mx ≤ omx
      · have := sqH_pos (f := Fo) gmx (show -10000 ≤ hi by omega) (show hi ≤ omx by omega) l4
        omega
      · have := sqH_pos (f := F) hmx (show -10000 ≤ hi by omega) (show hi ≤ mx by omega) l2
        omega
    · have e : s = nb := by omega
      rw [e]
      by_cases c2 : mx ≤ omx
      · have : 0 < sqH Fo nb nb := by rw [show nb = omx from by omega]; exact sqH_pos gmx (by omega) (Int.le_refl _) l4
        omega
      · have e5 := (hsn.resolve_left c) nb
        rw [show nb = mx from by omega] at e5 ⊢
        omega
  · rcases hk with hk | hk
    · exact .inl ((hS k).2 (.inl hk))
    · rcases hg with hg | hg
      · exact .inl ((hS k).2 (.inr (by rw [hk]; exact (Option.some.inj hg).symm)))
      · right; omega
end Go.Proofs.YtnmbjalojgccmaaGreat
end
