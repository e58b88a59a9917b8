/-
  FromVarfloat: what is decoded, and how many bytes are left.
-/
import Derived.Test.YtgjlbodclfhlfaaDoorDecV
import Derived.Test.YtgjlbodclfhlfaaDoorCoded
import Derived.Test.YtgjlbodclfhlfaaDoorQuiet
import Derived.RegionTactic
import Derived.ChangeAlike
namespace Go.Proofs.YtgjlbodclfhlfaaDoor
open Go.RowKit

/-- What the closure of FromVarfloat leaves in the named results' variables. -/
def fromVIn (z : Nat) (R : Option (Nat × List Nat)) (len : Nat) (pn pr po : Nat) (w w' : World) : Prop :=
  w'.heap[pn]? = some (.cells #[(R.map fun _ => Value.float .f64 z).getD (.float .f64 0)] 22 (0, 0)) ∧ w'.heap[pr]? = some (.cells #[.int .i64 (((R.map (·.2.length)).getD len : Nat) : Int)] 3 (0, 0)) ∧ w'.heap[po]? = some (.cells #[.bool R.isSome] 4 (0, 0)) ∧
    Fr (fun k => k = pn ∨ k = pr ∨ k = po) w w'

set_option maxRecDepth 100000 in
set_option maxHeartbeats 800000 in
theorem fromV_closure (pb pn pr po : Nat) (g off cp : Nat) (xs : List Nat) (v0 v1 v2 : Value) (z : Nat) (R : Option (Nat × List Nat)) (w : World) (hn : xs.length < 1000000000) (hb : ∀ x ∈ xs, x < 256) (hz : ∀ y rest, decV 0 0 xs = some (y, rest) → floatBits .sub .f64 (unturned y) 4607182418800017408 = some z)
   (hpb : w.heap[pb]? = some (.cells #[.slice (some ⟨g, off, none⟩) xs.length cp] 23 (0, 0))) (hpn : w.heap[pn]? = some (.cells #[v0] 22 (0, 0))) (hpr : w.heap[pr]? = some (.cells #[v1] 3 (0, 0))) (hpo : w.heap[po]? = some (.cells #[v2] 4 (0, 0)))
   (hR : decV 0 0 xs = R) (h1 : pn ≠ pr) (h2 : pn ≠ po) (h3 : pr ≠ po)
   (hcell : ∀ i, (h : i < xs.length) → w.cell? ⟨g, off + i, none⟩ = some (.int .u8 (xs[i] : Int))) :
    Calls Tryd.prog 25 #[.pointer (some ⟨pb, 0, none⟩), .pointer (some ⟨pn, 0, none⟩), .pointer (some ⟨pr, 0, none⟩), .pointer (some ⟨po, 0, none⟩)] w fun e w' => e = .returned (.tuple #[]) ∧ fromVIn z R xs.length pn pr po w w' := by
  have hcb := cell_of_one hpb
  have hlb := lt_of_block hpb
  have hln := lt_of_block hpn
  have hlr := lt_of_block hpr
  have hlo := lt_of_block hpo
  go_enter Tryd.func25, Tryd.ntmps25
  have hsrc : ∀ j u, (cu8 xs)[j]? = some u → (w.alloc (.cells #[] 5)).cell? ((⟨g, off, none⟩ : Addr).add j) = some u := by
    intro j u hj
    have hjl : j < xs.length := by
      rcases Nat.lt_or_ge j xs.length with h | h
      · exact h
      · simp [cu8, List.getElem?_eq_none h] at hj
    have hadd : (⟨g, off, none⟩ : Addr).add j = ⟨g, off + j, none⟩ := by unfold Addr.add; split <;> simp_all
    rw [hadd, World.cell?_of_block (w := w) (Below.heap_alloc _ _ _ (World.block_lt_of_cell? w _ (hcell j hjl))), hcell j hjl]
    simpa [cu8, List.getElem?_eq_getElem hjl] using hj
  have HS := Lib.hid hsrc; clear hsrc hcell
  obtain ⟨i0, hi, hz0, hz1, hz2⟩ := info_parts Tryd.infoU8
  go_wp2_with (at_builtin; refine wpList_append_own2 _ rfl _ _ 23 rfl 5 i0 (.int .u8 0) 1 1 Tryd.underlying23 hi hz0 hz1 hz2 rfl (by decide) (.slice (some ⟨w.heap.size, 0, none⟩) 0 0) 0 [] rfl (World.ownsRow_made w #[] 0 (Nat.zero_le _) (by decide) rfl) ⟨g, off, none⟩ xs.length cp (cu8 xs) rfl ?c0 ?c1 ?c2 ?c3 ?c4 ?_)
  case c0 => simp [cu8]
  case c1 => exact HS.out
  case c2 => intro u hu; simp [cu8] at hu; obtain ⟨x, _, rfl⟩ := hu; rfl
  case c3 => unfold maxLen; omega
  case c4 => omega
  intro v' w1 hown hgrow hblk
  obtain ⟨ao, n1, cp1, hv1⟩ := owns_slice hown
  have hnl : n1 = xs.length := by rw [hv1] at hown; have := owns_len hown; omega
  subst hnl
  rw [hv1]
  have hgr : ∀ k, k < w.heap.size → w1.heap[k]? = w.heap[k]? := fun k hk => (hgrow.block k (by simp; omega) (by simp [Value.ownBlock]; omega)).trans (Below.heap_alloc _ _ _ hk)
  have hsz : w.heap.size < w1.heap.size := by have := hgrow.size; simp at this; omega
  have hrow : RowB (· < w1.heap.size) (w1.alloc (.cells #[.slice ao xs.length cp1] 23)) (.slice ao xs.length cp1) xs := by
    rw [← hv1]
    exact rowB_of_owns _ hown (fun a ha => World.cell?_of_block (Below.heap_alloc _ _ _ ha)) (fun _ _ h => h) ⟨w.heap.size, hsz⟩
  have hF1 : Fr (fun _ => False) w w1 := ⟨hgrow.os, hgrow.tape, hgrow.output, by omega, fun k hk _ => hgr k hk⟩
  have HF := Lib.hid hF1
  have hpx := heap_alloc_new w1 (.cells #[.slice ao xs.length cp1] 23)
  have hcx := cell_of_one hpx
  have hfx := free_of_one hpx
  have H := decV_any (· < w1.heap.size) w1.heap.size (.slice ao xs.length cp1) xs z (w1.alloc (.cells #[.slice ao xs.length cp1] 23)) hn hb (by omega) hz hcx hfx hrow
  rw [hR] at H
  have hxn : w1.heap[pn]? = some (.cells #[v0] 22 (0, 0)) := by rw [hgr _ hln]; exact hpn
  have hxr : w1.heap[pr]? = some (.cells #[v1] 3 (0, 0)) := by rw [hgr _ hlr]; exact hpr
  have hxo : w1.heap[po]? = some (.cells #[v2] 4 (0, 0)) := by rw [hgr _ hlo]; exact hpo
  clear hown hgrow hblk hgr hrow hF1 HS hcb hb hn hi hz0 hz1 hz2 hR
  go_wp2_with fail
  refine H.mono ?_
  clear H
  rintro e w2 hd
  simp only [Option.map] at hd
  have hln1 : pn < w1.heap.size := by omega
  have hlr1 : pr < w1.heap.size := by omega
  have hlo1 : po < w1.heap.size := by omega
  cases R with
  | none =>
    obtain ⟨rfl, hw2⟩ := hd
    unfold eofV
    have hn2 : w2.heap[pn]? = some (.cells #[v0] 22 (0, 0)) := by rw [hw2, Below.heap_alloc _ _ _ hln1]; exact hxn
    have hr2 : w2.heap[pr]? = some (.cells #[v1] 3 (0, 0)) := by rw [hw2, Below.heap_alloc _ _ _ hlr1]; exact hxr
    have ho2 : w2.heap[po]? = some (.cells #[v2] 4 (0, 0)) := by rw [hw2, Below.heap_alloc _ _ _ hlo1]; exact hxo
    have hx2 : w2.heap[w1.heap.size]? = some (.cells #[.slice ao xs.length cp1] 23 (0, 0)) := by rw [hw2]; exact hpx
    have HF2 : Hid (Fr (fun _ => False) w w2) := by show Fr _ _ _; rw [hw2]; exact HF.out.alloc _
    clear hw2
    have c1 := cell_of_one hn2
    have c2 := cell_of_one hr2
    have c3 := cell_of_one ho2
    have c4 := cell_of_one hx2
    have f1 := free_of_one hn2
    have f2 := free_of_one hr2
    have f3 := free_of_one ho2
    have HN2 := Lib.hid hn2
    have HR2 := Lib.hid hr2
    have HO2 := Lib.hid ho2
    clear hn2 hr2 ho2 hx2
    go_wp2
    go_region
    all_goals
      go_end0
      exact ⟨rfl, from_end h1 h2 h3 HF2.out HN2.out HR2.out HO2.out⟩
  | some r =>
    obtain ⟨s2, rfl, hw2, hrow2⟩ := hd
    obtain ⟨ao2, cp2, g2, off2, rfl, _⟩ := hrow2
    have hn2 : w2.heap[pn]? = some (.cells #[v0] 22 (0, 0)) := by rw [hw2, Below.heap_setCell _ _ _ _ (by simp; omega), Below.heap_alloc _ _ _ hln1]; exact hxn
    have hr2 : w2.heap[pr]? = some (.cells #[v1] 3 (0, 0)) := by rw [hw2, Below.heap_setCell _ _ _ _ (by simp; omega), Below.heap_alloc _ _ _ hlr1]; exact hxr
    have ho2 : w2.heap[po]? = some (.cells #[v2] 4 (0, 0)) := by rw [hw2, Below.heap_setCell _ _ _ _ (by simp; omega), Below.heap_alloc _ _ _ hlo1]; exact hxo
    have hx2 : w2.heap[w1.heap.size]? = some (.cells #[.slice ao2 r.2.length cp2] 23 (0, 0)) := by rw [hw2]; exact one_setCell hpx
    have HF2 : Hid (Fr (fun _ => False) w w2) := by show Fr _ _ _; rw [hw2]; exact (HF.out.alloc _).setCell (by simp; omega) _
    clear hw2
    have c1 := cell_of_one hn2
    have c2 := cell_of_one hr2
    have c3 := cell_of_one ho2
    have c4 := cell_of_one hx2
    have f1 := free_of_one hn2
    have f2 := free_of_one hr2
    have f3 := free_of_one ho2
    have HN2 := Lib.hid hn2
    have HR2 := Lib.hid hr2
    have HO2 := Lib.hid ho2
    clear hn2 hr2 ho2 hx2
    go_wp2
    go_region
    all_goals
      go_end0
      exact ⟨rfl, from_end h1 h2 h3 HF2.out HN2.out HR2.out HO2.out⟩

/-- What FromVarfloat hands back. -/
def fromVGives (z : Nat) (R : Option (Nat × List Nat)) (w : World) (e : Ending) (w' : World) : Prop :=
  e = .returned (.tuple #[(R.map fun _ => Value.float .f64 z).getD (.float .f64 0), .int .i64 (((R.map (·.2.length)).getD 0 : Nat) : Int), .bool R.isSome]) ∧ Below w.heap.size w w'

set_option maxRecDepth 100000 in
set_option maxHeartbeats 800000 in
theorem fromV_any (g off cp : Nat) (xs : List Nat) (z : Nat) (R : Option (Nat × List Nat)) (w : World) (hn : xs.length < 1000000000) (hb : ∀ x ∈ xs, x < 256) (hz : ∀ y rest, decV 0 0 xs = some (y, rest) → floatBits .sub .f64 (unturned y) 4607182418800017408 = some z) (hR : decV 0 0 xs = R)
   (hcell : ∀ i, (h : i < xs.length) → w.cell? ⟨g, off + i, none⟩ = some (.int .u8 (xs[i] : Int))) :
    Calls Tryd.prog 9 #[.slice (some ⟨g, off, none⟩) xs.length cp] w fun e w' => fromVGives z R w e w' := by
  have hmf : ∀ (fn : Fn) (first cap : Array Value) (w : World), (Instr.makeFunc fn first cap).run Tryd.prog w = .ok (.func fn first cap) w := fun _ _ _ _ => rfl
  obtain ⟨W, hW⟩ : ∃ W, W = (((w.alloc (.cells #[.slice (some ⟨g, off, none⟩) xs.length cp] 23)).alloc (.cells #[(.float .f64 0)] 22)).alloc (.cells #[.int .i64 0] 3)).alloc (.cells #[.bool false] 4) := ⟨_, rfl⟩
  have hWs : W.heap.size = w.heap.size + 4 := by rw [hW]; simp
  have hFW : Fr (fun _ => False) w W := by rw [hW]; exact ((((Fr.refl _ w).alloc _).alloc _).alloc _).alloc _
  have hW0 : W.heap[w.heap.size]? = some (.cells #[.slice (some ⟨g, off, none⟩) xs.length cp] 23 (0, 0)) := by
    rw [hW, Below.heap_alloc _ _ _ (by simp; omega), Below.heap_alloc _ _ _ (by simp; omega), Below.heap_alloc _ _ _ (by simp)]; exact heap_alloc_new w _
  have hW1 : W.heap[w.heap.size + 1]? = some (.cells #[(.float .f64 0)] 22 (0, 0)) := by
    rw [hW, Below.heap_alloc _ _ _ (by simp), Below.heap_alloc _ _ _ (by simp)]
    have := heap_alloc_new (w.alloc (.cells #[.slice (some ⟨g, off, none⟩) xs.length cp] 23)) (.cells #[(.float .f64 0)] 22)
    simpa using this
  have hW2 : W.heap[w.heap.size + 1 + 1]? = some (.cells #[.int .i64 0] 3 (0, 0)) := by
    rw [hW, Below.heap_alloc _ _ _ (by simp)]
    have := heap_alloc_new ((w.alloc (.cells #[.slice (some ⟨g, off, none⟩) xs.length cp] 23)).alloc (.cells #[(.float .f64 0)] 22)) (.cells #[.int .i64 0] 3)
    simpa using this
  have hW3 : W.heap[w.heap.size + 1 + 1 + 1]? = some (.cells #[.bool false] 4 (0, 0)) := by
    rw [hW]
    have := heap_alloc_new (((w.alloc (.cells #[.slice (some ⟨g, off, none⟩) xs.length cp] 23)).alloc (.cells #[(.float .f64 0)] 22)).alloc (.cells #[.int .i64 0] 3)) (.cells #[.bool false] 4)
    simpa using this
  have hal : ∀ k, k < W.heap.size → (W.alloc (.cells #[.bool false] 4)).heap[k]? = W.heap[k]? := fun k hk => Below.heap_alloc _ _ _ hk
  have H := quietly_any 25 #[.pointer (some ⟨w.heap.size, 0, none⟩), .pointer (some ⟨w.heap.size + 1, 0, none⟩), .pointer (some ⟨w.heap.size + 1 + 1, 0, none⟩), .pointer (some ⟨w.heap.size + 1 + 1 + 1, 0, none⟩)] W
    (fromVIn z R xs.length (w.heap.size + 1) (w.heap.size + 1 + 1) (w.heap.size + 1 + 1 + 1) (W.alloc (.cells #[.bool false] 4)))
    (fun w => run_enter Tryd.func25 (by kernel_rfl) rfl _ w)
    ((fromV_closure w.heap.size (w.heap.size + 1) (w.heap.size + 1 + 1) (w.heap.size + 1 + 1 + 1) g off cp xs (.float .f64 0) (.int .i64 0) (.bool false) z R (W.alloc (.cells #[.bool false] 4)) hn hb hz
      ((hal _ (by omega)).trans hW0) ((hal _ (by omega)).trans hW1) ((hal _ (by omega)).trans hW2) ((hal _ (by omega)).trans hW3) hR (by omega) (by omega) (by omega)
      (fun i h => (hFW.alloc _).cell (hcell i h) (fun h => h))).mono ?h4)
  case h4 =>
    rintro e w1 ⟨rfl, q1, q2, q3, q4⟩
    refine ⟨rfl, ?_, q1, q2, q3, q4⟩
    exact q4.heap (heap_alloc_new W _) (by omega)
  have HFW := Lib.hid hFW
  rw [hW] at H
  have HW := Lib.hid hW
  have HWs := Lib.hid hWs
  clear hW hWs
  clear hFW hW0 hW1 hW2 hW3 hal hR hn hb hcell hz
  go_enter Tryd.func9, Tryd.ntmps9
  go_wp2_with fail
  refine H.mono ?_
  clear H
  rintro e w2 ⟨rfl, w1, ⟨q1, q2, q3, q4⟩, hw2⟩
  rw [← HW.out] at q4 hw2
  have hWs := HWs.out
  have hsz := q4.size
  simp at hsz
  have g1 : w2.heap[w.heap.size + 1]? = some (.cells #[(R.map fun _ => Value.float .f64 z).getD (.float .f64 0)] 22 (0, 0)) := by rw [hw2, Below.heap_setCell _ _ _ _ (by simp; omega)]; exact q1
  have g2 : w2.heap[w.heap.size + 1 + 1]? = some (.cells #[.int .i64 (((R.map (·.2.length)).getD xs.length : Nat) : Int)] 3 (0, 0)) := by rw [hw2, Below.heap_setCell _ _ _ _ (by simp; omega)]; exact q2
  have g3 : w2.heap[w.heap.size + 1 + 1 + 1]? = some (.cells #[.bool R.isSome] 4 (0, 0)) := by rw [hw2, Below.heap_setCell _ _ _ _ (by simp; omega)]; exact q3
  have g4 : Below w.heap.size w w2 := by
    rw [hw2]
    refine (Fr.below (S := fun k => w.heap.size ≤ k) ?_ (fun _ h => h) (Nat.le_refl _)).setCell (by simp; omega) _
    exact (HFW.out.alloc _).trans q4 (fun _ _ h => h.elim) (fun i hi h => by omega)
  have G4 := Lib.hid g4
  clear q1 q2 q3 q4 hw2 hsz g4 HFW hWs
  cases R with
  | none =>
    simp only [Option.map, Option.getD, Option.isSome] at g1 g2 g3
    have c1 := cell_of_one g1
    have c2 := cell_of_one g2
    have c3 := cell_of_one g3
    have f1 := free_of_one g1
    have f2 := free_of_one g2
    have f3 := free_of_one g3
    have GG1 := Lib.hid g1
    have GG2 := Lib.hid g2
    have GG3 := Lib.hid g3
    clear g1 g2 g3
    go_wp2
    have E := from_end (a := (.float .f64 0)) (b := .int .i64 0) (c := .bool false) (show w.heap.size + 1 ≠ w.heap.size + 1 + 1 from by omega) (show w.heap.size + 1 ≠ w.heap.size + 1 + 1 + 1 from by omega) (show w.heap.size + 1 + 1 ≠ w.heap.size + 1 + 1 + 1 from by omega) (Fr.refl _ w2) GG1.out GG2.out GG3.out
    have d1 := cell_of_one E.1
    have d2 := cell_of_one E.2.1
    have d3 := cell_of_one E.2.2.1
    have hbel : Below w.heap.size w _ := G4.out.trans (E.2.2.2.below (fun k h => by omega) (by have := G4.out.size; omega))
    have d1' : (((w2.setCell ⟨w.heap.size + 1, 0, none⟩ (.float .f64 0)).setCell ⟨w.heap.size + 1 + 1, 0, none⟩ (.int .i64 0)).setCell ⟨w.heap.size + 1 + 1 + 1, 0, none⟩ (.bool false)).cell? ⟨w.heap.size + 1, 0, none⟩ = some (.float .f64 0) := d1
    have d2' : (((w2.setCell ⟨w.heap.size + 1, 0, none⟩ (.float .f64 0)).setCell ⟨w.heap.size + 1 + 1, 0, none⟩ (.int .i64 0)).setCell ⟨w.heap.size + 1 + 1 + 1, 0, none⟩ (.bool false)).cell? ⟨w.heap.size + 1 + 1, 0, none⟩ = some (.int .i64 0) := d2
    have d3' : (((w2.setCell ⟨w.heap.size + 1, 0, none⟩ (.float .f64 0)).setCell ⟨w.heap.size + 1 + 1, 0, none⟩ (.int .i64 0)).setCell ⟨w.heap.size + 1 + 1 + 1, 0, none⟩ (.bool false)).cell? ⟨w.heap.size + 1 + 1 + 1, 0, none⟩ = some (.bool false) := d3
    exact bodyPost_ret (v := .tuple #[(.float .f64 0), .int .i64 0, .bool false]) (by simp only [results, Tryd.results9]; simp [go_sem, d1', d2', d3']) rfl ⟨rfl, ⟨hbel.os, hbel.tape, hbel.output, hbel.size, hbel.block⟩⟩
  | some r =>
    simp only [Option.map, Option.getD, Option.isSome] at g1 g2 g3
    have c1 := cell_of_one g1
    have c2 := cell_of_one g2
    have c3 := cell_of_one g3
    have f1 := free_of_one g1
    have f2 := free_of_one g2
    have f3 := free_of_one g3
    have GG1 := Lib.hid g1
    have GG2 := Lib.hid g2
    have GG3 := Lib.hid g3
    clear g1 g2 g3
    go_wp2
    go_region
    go_wp2
    have E := from_end (a := Value.float .f64 z) (b := .int .i64 (r.2.length : Int)) (c := .bool true) (show w.heap.size + 1 ≠ w.heap.size + 1 + 1 from by omega) (show w.heap.size + 1 ≠ w.heap.size + 1 + 1 + 1 from by omega) (show w.heap.size + 1 + 1 ≠ w.heap.size + 1 + 1 + 1 from by omega) (Fr.refl _ w2) GG1.out GG2.out GG3.out
    have d1 := cell_of_one E.1
    have d2 := cell_of_one E.2.1
    have d3 := cell_of_one E.2.2.1
    have hbel : Below w.heap.size w _ := G4.out.trans (E.2.2.2.below (fun k h => by omega) (by have := G4.out.size; omega))
    exact bodyPost_ret (v := .tuple #[Value.float .f64 z, .int .i64 (r.2.length : Int), .bool true]) (by simp only [results, Tryd.results9]; simp [go_sem, d1, d2, d3]) rfl ⟨rfl, hbel⟩
end Go.Proofs.YtgjlbodclfhlfaaDoor
