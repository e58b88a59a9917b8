/-
  impl.Sizes: how many bytes a number, one with a sign and one with a fraction are laid into.
-/
import Derived.Test.YtgjlbodclfhlfaaDoorSizes
import Derived.Test.YtgjlbodclfhlfaaDoorCoded
import Derived.Test.YtgjlbodclfhlfaaDoorAllocs
import Derived.Deep.RegionHeld3
import Derived.BigQuiet
import Derived.Deep.QuietTactic
namespace Go.Proofs.YtgjlbodclfhlfaaDoor
open Go.RowKit

/-- What the closure of Sizes leaves. -/
def SizesIn (a b c : Nat) (pa pb pc : Nat) (w w' : World) : Prop :=
  w'.heap[pa]? = some (.cells #[.int .i64 a] 3 (0, 0)) ∧ w'.heap[pb]? = some (.cells #[.int .i64 b] 3 (0, 0)) ∧ w'.heap[pc]? = some (.cells #[.int .i64 c] 3 (0, 0)) ∧
    Fr (fun k => k = pa ∨ k = pb ∨ k = pc) w w'

theorem GivesInt.mono {n : Nat} {w0 w w' : World} {e : Ending} (h : GivesInt n w e w') (hb : Below w0.heap.size w0 w) : e = .returned (.int .i64 n) ∧ Below w0.heap.size w0 w' :=
  ⟨h.1, hb.trans (h.2.mono hb.size)⟩

theorem ne_setCell {w : World} {p q : Nat} (h : p ≠ q) (v : Value) : (w.setCell ⟨q, 0, none⟩ v).cell? ⟨p, 0, none⟩ = w.cell? ⟨p, 0, none⟩ :=
  World.cell?_of_block (w := w) (Below.heap_setCell _ _ _ _ h)

set_option maxRecDepth 100000 in
set_option maxHeartbeats 4000000 in
theorem sizes_closure (pn pm pf pa pb pc : Nat) (n : Nat) (m : Int) (fb r a b c : Nat) (va vb vc : Value) (w : World) (ha : (encU 8 n).length = a) (hb' : (encU 8 (folded m)).length = b) (hc' : (encV 8 (turned r)).length = c) (hn : n < 18446744073709551616) (h0 : -9223372036854775808 ≤ m) (h1 : m ≤ 9223372036854775807) (hr : floatBits .add .f64 fb 4607182418800017408 = some r)
   (hT : TabAt w) (hg : 1 < w.heap.size)
   (hpn : w.heap[pn]? = some (.cells #[.int .u64 n] 28 (0, 0))) (hpm : w.heap[pm]? = some (.cells #[.int .i64 m] 2 (0, 0))) (hpf : w.heap[pf]? = some (.cells #[.float .f64 fb] 22 (0, 0)))
   (hpa : w.heap[pa]? = some (.cells #[va] 3 (0, 0))) (hpb : w.heap[pb]? = some (.cells #[vb] 3 (0, 0))) (hpc : w.heap[pc]? = some (.cells #[vc] 3 (0, 0)))
   (d1 : pa ≠ pb) (d2 : pa ≠ pc) (d3 : pb ≠ pc) :
    Calls Tryd.prog 18 #[.pointer (some ⟨pn, 0, none⟩), .pointer (some ⟨pm, 0, none⟩), .pointer (some ⟨pf, 0, none⟩), .pointer (some ⟨pa, 0, none⟩), .pointer (some ⟨pb, 0, none⟩), .pointer (some ⟨pc, 0, none⟩)] w fun e w' =>
      e = .returned (.tuple #[]) ∧ SizesIn a b c pa pb pc w w' := by
  have H1 : ∀ w', Below w.heap.size w w' → Calls Tryd.prog 19 #[.int .u64 n] w' fun e w2 => e = .returned (.int .i64 a) ∧ Below w.heap.size w w2 := fun w' hb => (uSize_any n w' hn).mono fun e w2 h => by rw [← ha]; exact h.mono hb
  have H2 : ∀ w', Below w.heap.size w w' → Calls Tryd.prog 20 #[.int .i64 m] w' fun e w2 => e = .returned (.int .i64 b) ∧ Below w.heap.size w w2 := fun w' hb => (iSize_any m w' h0 h1).mono fun e w2 h => by rw [← hb']; exact h.mono hb
  have H3 : ∀ w', Below w.heap.size w w' → Calls Tryd.prog 21 #[.float .f64 fb] w' fun e w2 => e = .returned (.int .i64 c) ∧ Below w.heap.size w w2 := fun w' hb => (vSize_any fb r w' hr (hT.below hb hg) (Nat.lt_of_lt_of_le hg hb.size)).mono fun e w2 h => by rw [← hc']; exact h.mono hb
  have HH1 := Lib.hid H1
  have HH2 := Lib.hid H2
  have HH3 := Lib.hid H3
  have l1 := lt_of_block hpn
  have l2 := lt_of_block hpm
  have l3 := lt_of_block hpf
  have hc1 := cell_of_one hpn
  have hc2 := cell_of_one hpm
  have hc3 := cell_of_one hpf
  have PA := Lib.hid hpa
  have PB := Lib.hid hpb
  have PC := Lib.hid hpc
  have la := lt_of_block hpa
  have lb := lt_of_block hpb
  have lc := lt_of_block hpc
  have n1 : pn ≠ pa := fun e => by rw [e, hpa] at hpn; simp at hpn
  have n4 : pn ≠ pb := fun e => by rw [e, hpb] at hpn; simp at hpn
  have n7 : pn ≠ pc := fun e => by rw [e, hpc] at hpn; simp at hpn
  have n2 : pm ≠ pa := fun e => by rw [e, hpa] at hpm; simp at hpm
  have n5 : pm ≠ pb := fun e => by rw [e, hpb] at hpm; simp at hpm
  have n8 : pm ≠ pc := fun e => by rw [e, hpc] at hpm; simp at hpm
  have n3 : pf ≠ pa := fun e => by rw [e, hpa] at hpf; simp at hpf
  have n6 : pf ≠ pb := fun e => by rw [e, hpb] at hpf; simp at hpf
  have n9 : pf ≠ pc := fun e => by rw [e, hpc] at hpf; simp at hpf
  clear H1 H2 H3 ha hb' hc' hn h0 h1 hr hT hg hpn hpm hpf hpa hpb hpc
  have hb0 : Below w.heap.size w w := Below.refl _ _
  have hbd : Below w.heap.size w w.drew := hb0.drew
  have hd1 : w.drew.cell? ⟨pn, 0, none⟩ = some (.int .u64 n) := hc1
  have hd2 : w.drew.cell? ⟨pm, 0, none⟩ = some (.int .i64 m) := hc2
  have hd3 : w.drew.cell? ⟨pf, 0, none⟩ = some (.float .f64 fb) := hc3
  go_enter Tryd.func18, Tryd.ntmps18
  go_wp2_with fail
  go_region_held3 (fun w' => w'.cell? ⟨pn, 0, none⟩ = some (.int .u64 n) ∧ w'.cell? ⟨pm, 0, none⟩ = some (.int .i64 m) ∧ w'.cell? ⟨pf, 0, none⟩ = some (.float .f64 fb))
    (first | (with_reducible exact ⟨hc1, hc2, hc3⟩) | (with_reducible exact ⟨hd1, hd2, hd3⟩) | (with_reducible exact ⟨k1, k2, k3⟩) | (with_reducible exact ⟨(ne_setCell n1 _).trans k1, (ne_setCell n2 _).trans k2, (ne_setCell n3 _).trans k3⟩) | (with_reducible exact ⟨(ne_setCell n4 _).trans ((ne_setCell n1 _).trans k1), (ne_setCell n5 _).trans ((ne_setCell n2 _).trans k2), (ne_setCell n6 _).trans ((ne_setCell n3 _).trans k3)⟩) | (with_reducible exact ⟨(ne_setCell n7 _).trans ((ne_setCell n4 _).trans ((ne_setCell n1 _).trans k1)), (ne_setCell n8 _).trans ((ne_setCell n5 _).trans ((ne_setCell n2 _).trans k2)), (ne_setCell n9 _).trans ((ne_setCell n6 _).trans ((ne_setCell n3 _).trans k3))⟩))
    (first | (go_at_call 19; refine (HH1.out _ hbd).mono ?_; rintro e w2 ⟨rfl, hb⟩; have k1 := (hb.cell (p := ⟨pn, 0, none⟩) l1).trans hc1; have k2 := (hb.cell (p := ⟨pm, 0, none⟩) l2).trans hc2; have k3 := (hb.cell (p := ⟨pf, 0, none⟩) l3).trans hc3) | (go_at_call 20; refine (HH2.out _ hb).mono ?_; rintro e w3 ⟨rfl, hb3⟩; have k1 := (hb3.cell (p := ⟨pn, 0, none⟩) l1).trans hc1; have k2 := (hb3.cell (p := ⟨pm, 0, none⟩) l2).trans hc2; have k3 := (hb3.cell (p := ⟨pf, 0, none⟩) l3).trans hc3) | (go_at_call 21; refine (HH3.out _ hb3).mono ?_; rintro e w4 ⟨rfl, hb4⟩; have k1 := (hb4.cell (p := ⟨pn, 0, none⟩) l1).trans hc1; have k2 := (hb4.cell (p := ⟨pm, 0, none⟩) l2).trans hc2; have k3 := (hb4.cell (p := ⟨pf, 0, none⟩) l3).trans hc3; have qa := (hb4.block pa la).trans PA.out; have qb := (hb4.block pb lb).trans PB.out; have qc := (hb4.block pc lc).trans PC.out; have ca := cell_of_one qa; have cb := cell_of_one qb; have cc := cell_of_one qc; have fa := free_of_one qa; have fb2 := free_of_one qb; have fc := free_of_one qc; have QA := Lib.hid qa; have QB := Lib.hid qb; have QC := Lib.hid qc; have HB4 := Lib.hid hb4; clear qa qb qc))
  go_end0
  have E := from_end (a := .int .i64 (a : Int)) (b := .int .i64 (b : Int)) (c := .int .i64 (c : Int)) d1 d2 d3 (⟨HB4.out.os, HB4.out.tape, HB4.out.output, HB4.out.size, fun k hk _ => HB4.out.block k hk⟩ : Fr (fun _ => False) w w4) QA.out QB.out QC.out
  exact ⟨rfl, E.1, E.2.1, E.2.2.1, ⟨E.2.2.2.os, E.2.2.2.tape, E.2.2.2.output, E.2.2.2.size, E.2.2.2.block⟩⟩

/-- What Sizes hands back. -/
def GivesSizes (a b c : Nat) (w : World) (e : Ending) (w' : World) : Prop :=
  e = .returned (.tuple #[.int .i64 a, .int .i64 b, .int .i64 c]) ∧ Below w.heap.size w w'

set_option maxRecDepth 100000 in
set_option maxHeartbeats 800000 in
theorem sizes_any (n : Nat) (m : Int) (fb r a b c : Nat) (w : World) (hn : n < 18446744073709551616) (h0 : -9223372036854775808 ≤ m) (h1 : m ≤ 9223372036854775807) (hr : floatBits .add .f64 fb 4607182418800017408 = some r)
   (hT : TabAt w) (hg : 1 < w.heap.size) (ha : (encU 8 n).length = a) (hb : (encU 8 (folded m)).length = b) (hc : (encV 8 (turned r)).length = c) :
    Calls Tryd.prog 7 #[.int .u64 n, .int .i64 m, .float .f64 fb] w fun e w' => GivesSizes a b c w e w' := by
  have hmf : ∀ (fn : Fn) (first cap : Array Value) (w : World), (Instr.makeFunc fn first cap).run Tryd.prog w = .ok (.func fn first cap) w := fun _ _ _ _ => rfl
  have hW := allocs_new [.cells #[.int .u64 n] 28, .cells #[.int .i64 m] 2, .cells #[.float .f64 fb] 22, .cells #[.int .i64 0] 3, .cells #[.int .i64 0] 3, .cells #[.int .i64 0] 3, .cells #[.bool false] 4] w
  have hsz := allocs_size [.cells #[.int .u64 n] 28, .cells #[.int .i64 m] 2, .cells #[.float .f64 fb] 22, .cells #[.int .i64 0] 3, .cells #[.int .i64 0] 3, .cells #[.int .i64 0] 3, .cells #[.bool false] 4] w
  have hbl := allocs_below [.cells #[.int .u64 n] 28, .cells #[.int .i64 m] 2, .cells #[.float .f64 fb] 22, .cells #[.int .i64 0] 3, .cells #[.int .i64 0] 3, .cells #[.int .i64 0] 3, .cells #[.bool false] 4] w
  obtain ⟨W, hWe⟩ : ∃ W, W = (((((w.alloc (.cells #[.int .u64 n] 28)).alloc (.cells #[.int .i64 m] 2)).alloc (.cells #[.float .f64 fb] 22)).alloc (.cells #[.int .i64 0] 3)).alloc (.cells #[.int .i64 0] 3)).alloc (.cells #[.int .i64 0] 3) := ⟨_, rfl⟩
  have hWs : W.heap.size = w.heap.size + 6 := by rw [hWe]; simp
  have H := quietly_any 18 #[.pointer (some ⟨w.heap.size, 0, none⟩), .pointer (some ⟨w.heap.size + 1, 0, none⟩), .pointer (some ⟨w.heap.size + 1 + 1, 0, none⟩), .pointer (some ⟨w.heap.size + 1 + 1 + 1, 0, none⟩), .pointer (some ⟨w.heap.size + 1 + 1 + 1 + 1, 0, none⟩), .pointer (some ⟨w.heap.size + 1 + 1 + 1 + 1 + 1, 0, none⟩)] W
    (SizesIn a b c (w.heap.size + 1 + 1 + 1) (w.heap.size + 1 + 1 + 1 + 1) (w.heap.size + 1 + 1 + 1 + 1 + 1) (W.alloc (.cells #[.bool false] 4)))
    (fun w => run_enter Tryd.func18 (by kernel_rfl) rfl _ w)
    ((sizes_closure w.heap.size (w.heap.size + 1) (w.heap.size + 1 + 1) (w.heap.size + 1 + 1 + 1) (w.heap.size + 1 + 1 + 1 + 1) (w.heap.size + 1 + 1 + 1 + 1 + 1) n m fb r a b c (.int .i64 0) (.int .i64 0) (.int .i64 0) (W.alloc (.cells #[.bool false] 4)) ha hb hc hn h0 h1 hr
      (by rw [hWe]; exact hT.below hbl hg) (by rw [World.size_alloc, hWs]; omega)
      (by rw [hWe]; exact hW 0 (by simp)) (by rw [hWe]; exact hW 1 (by simp)) (by rw [hWe]; exact hW 2 (by simp)) (by rw [hWe]; exact hW 3 (by simp)) (by rw [hWe]; exact hW 4 (by simp)) (by rw [hWe]; exact hW 5 (by simp))
      (by omega) (by omega) (by omega)).mono ?h4)
  case h4 =>
    rintro e w1 ⟨rfl, q1, q2, q3, q4⟩
    exact ⟨rfl, q4.heap (heap_alloc_new W _) (by omega), q1, q2, q3, q4⟩
  have HBL := Lib.hid hbl
  have HWE := Lib.hid hWe
  have HWS := Lib.hid hWs
  rw [hWe] at H
  clear hW hsz hbl hWe hWs ha hb hc hn h0 h1 hr hT hg
  go_enter Tryd.func7, Tryd.ntmps7
  go_wp2_with fail
  refine H.mono ?_
  clear H
  rintro e w2 ⟨rfl, w1, ⟨q1, q2, q3, q4⟩, hw2⟩
  rw [← HWE.out] at q4 hw2
  have hsz := q4.size
  have hws := HWS.out
  rw [World.size_alloc] at hsz
  have g1 : w2.heap[w.heap.size + 1 + 1 + 1]? = some (.cells #[.int .i64 a] 3 (0, 0)) := by rw [hw2, Below.heap_setCell _ _ _ _ (by simp; omega)]; exact q1
  have g2 : w2.heap[w.heap.size + 1 + 1 + 1 + 1]? = some (.cells #[.int .i64 b] 3 (0, 0)) := by rw [hw2, Below.heap_setCell _ _ _ _ (by simp; omega)]; exact q2
  have g3 : w2.heap[w.heap.size + 1 + 1 + 1 + 1 + 1]? = some (.cells #[.int .i64 c] 3 (0, 0)) := by rw [hw2, Below.heap_setCell _ _ _ _ (by simp; omega)]; exact q3
  have g4 : Below w.heap.size w w2 := by
    rw [hw2]
    refine (Below.trans ?_ (q4.below (B := w.heap.size) (fun k h => by omega) (by rw [World.size_alloc]; omega))).setCell (by simp; omega) _
    have := HBL.out
    rw [HWE.out]
    exact this
  have c1 := cell_of_one g1
  have c2 := cell_of_one g2
  have c3 := cell_of_one g3
  have G4 := Lib.hid g4
  clear q1 q2 q3 q4 hw2 hsz hws g1 g2 g3 g4
  go_wp2_with fail
  go_quiet (fail)
  go_wp2
  go_ret3
  exact ⟨rfl, below_drewN G4.out _⟩
end Go.Proofs.YtgjlbodclfhlfaaDoor
