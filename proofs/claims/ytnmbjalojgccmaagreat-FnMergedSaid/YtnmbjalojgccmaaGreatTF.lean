/-
  impl.state, for every kind of store.
-/
import Derived.Test.YtnmbjalojgccmaaGreatTA
import Derived.Test.YtnmbjalojgccmaaGreatRA
import Derived.Test.YtnmbjalojgccmaaGreatRB
section
namespace Go.Proofs.YtnmbjalojgccmaaGreat
open Go.RowKit

def lowE (xs ks : Bins) : Int := if xs = [] then 0 else firstI ks
def topE (xs ks : Bins) : Int := if xs = [] then 0 else lastI ks

/-- The state of a store: its bins in a row of its own. -/
def Told (xs ks : Bins) (w w' : World) (v : Value) : Prop :=
  ∃ ao c, v = .agg #[.slice ao ks.length c, .float .f64 (nf (tot xs)), .bool xs.isEmpty, .int .i64 (lowE xs ks), .int .i64 (topE xs ks)] ∧
    w'.ownsRow 0 62 2 (.slice ao ks.length c) ks.length (pc (fb ks)) ∧ ∀ k, (Value.slice ao ks.length c).ownBlock = some k → w.heap.size ≤ k

theorem state_cells {w : World} {b3 : Nat} {v t e mn mx : Value} (h : w.heap[b3]? = some (.cells #[v, t, e, mn, mx] 38 (0, 0))) :
    w.cell? ⟨b3, 0, none⟩ = some v ∧ w.cell? ⟨b3, 1, none⟩ = some t ∧ w.cell? ⟨b3, 2, none⟩ = some e ∧ w.cell? ⟨b3, 3, none⟩ = some mn ∧ w.cell? ⟨b3, 4, none⟩ = some mx :=
  ⟨cell_of_row _ _ 0 _ _ _ h, cell_of_row _ _ 1 _ _ _ h, cell_of_row _ _ 2 _ _ _ h, cell_of_row _ _ 3 _ _ _ h, cell_of_row _ _ 4 _ _ _ h⟩

theorem state_set5 {w : World} {B : Nat} {a0 a1 a2 a3 a4 : Value} (v0 v1 v2 v3 v4 : Value) (h : w.heap[B]? = some (.cells #[a0, a1, a2, a3, a4] 38 (0, 0))) :
    (((((w.setCell ⟨B, 0, none⟩ v0).setCell ⟨B, 1, none⟩ v1).setCell ⟨B, 2, none⟩ v2).setCell ⟨B, 3, none⟩ v3).setCell ⟨B, 4, none⟩ v4).heap[B]? = some (.cells #[v0, v1, v2, v3, v4] 38 (0, 0)) ∧
    Fr (fun b => b = B) w (((((w.setCell ⟨B, 0, none⟩ v0).setCell ⟨B, 1, none⟩ v1).setCell ⟨B, 2, none⟩ v2).setCell ⟨B, 3, none⟩ v3).setCell ⟨B, 4, none⟩ v4) := by
  have h0 := (heap_setCell_same w B 0 _ _ v0 h).trans (show _ = some (.cells #[v0, a1, a2, a3, a4] 38 (0, 0)) from rfl)
  have h1 := (heap_setCell_same _ B 1 _ _ v1 h0).trans (show _ = some (.cells #[v0, v1, a2, a3, a4] 38 (0, 0)) from rfl)
  have h2 := (heap_setCell_same _ B 2 _ _ v2 h1).trans (show _ = some (.cells #[v0, v1, v2, a3, a4] 38 (0, 0)) from rfl)
  have h3 := (heap_setCell_same _ B 3 _ _ v3 h2).trans (show _ = some (.cells #[v0, v1, v2, v3, a4] 38 (0, 0)) from rfl)
  have h4 := (heap_setCell_same _ B 4 _ _ v4 h3).trans (show _ = some (.cells #[v0, v1, v2, v3, v4] 38 (0, 0)) from rfl)
  have f0 : Fr (fun b => b = B) w w := Fr.refl _ w
  exact ⟨h4, ((((f0.setCell (p := ⟨B, 0, none⟩) (fun _ => rfl) v0).setCell (p := ⟨B, 1, none⟩) (fun _ => rfl) v1).setCell (p := ⟨B, 2, none⟩) (fun _ => rfl) v2).setCell (p := ⟨B, 3, none⟩) (fun _ => rfl) v3).setCell (p := ⟨B, 4, none⟩) (fun _ => rfl) v4⟩

def StateRel {kind : Int} (K : StoreKind kind) (most : Int) (xs : Bins) (S : Nat → Prop) (p b3 : Nat) (ks : Bins) (ab : Option Addr) (cb : Nat) (w wr : World) (i : Value) : Prop :=
  ∃ (k : Nat) (ar : Option Addr) (cr : Nat), k ≤ ks.length ∧ i = .int .i64 (k : Int) ∧ K.St most xs S p wr ∧ StBox wr b3 (.slice ar k cr) (.float .f64 (nf (tot xs))) (.bool xs.isEmpty) (.int .i64 0) (.int .i64 0) (fb (ks.take k)) ∧
    (∀ b, (Value.slice ar k cr).ownBlock = some b → w.heap.size ≤ b) ∧ wr.ownsRow 0 145 2 (.slice ab ks.length cb) ks.length (pc (fb ks)) ∧
    wr.heap[w.heap.size]? = some (.cells #[.slice none 0 0, .float .f64 0, .bool false, .int .i64 0, .int .i64 0] 38 (0, 0)) ∧ Fr S w wr

set_option linter.unusedSimpArgs false in
set_option maxRecDepth 100000 in
set_option maxHeartbeats 1000000 in
theorem state_any {kind : Int} {K : StoreKind kind} (D : ToldKind K) (most : Int) (xs : Bins) (S : Nat → Prop) (p : Nat) (w : World) (h : K.St most xs S p w) (hf : Few kind most xs) :
    Calls Tryz.prog 62 #[.iface K.T (.pointer (some ⟨p, 0, none⟩))] w fun e w' => (∃ v, e = .returned v ∧ Told xs (keptB kind most xs) w w' v) ∧ Fr S w w' := by
  have hlt := K.lt most xs S p w h
  have hsz : ∀ k, S k → ¬ w.heap.size ≤ k := fun k hk => Nat.not_le.2 (hlt k hk)
  obtain ⟨w0, hw0⟩ : ∃ w0, w0 = w.alloc (.cells #[.slice none 0 0, .float .f64 0, .bool false, .int .i64 0, .int .i64 0] 38) := ⟨_, rfl⟩
  have hF0 : Fr S w w0 := by rw [hw0]; exact (Fr.refl _ w).alloc _
  have h0 : K.St most xs S p w0 := K.fr most xs S p (fun _ => False) w w0 h (by rw [hw0]; exact (Fr.refl _ w).alloc _) (fun _ _ h => h)
  have hz0 : w0.heap[w.heap.size]? = some (.cells #[.slice none 0 0, .float .f64 0, .bool false, .int .i64 0, .int .i64 0] 38 (0, 0)) := by rw [hw0]; exact heap_alloc_new w _
  have hs0 : w0.heap.size = w.heap.size + 1 := by rw [hw0]; simp
  have HT := D.cTot most xs S p w0 h0 hf
  have hM1 := D.mTot p
  have hE1 := D.eTot
  rw [hw0] at HT
  have HW0 := Lib.hid hw0
  have HF0 := Lib.hid hF0
  have HZ0 := Lib.hid hz0
  have HS0 := Lib.hid hs0
  have HSZ := Lib.hid hsz
  clear hF0 h0 hz0 hs0 hlt h hw0 hsz
  go_enter Tryz.func62, Tryz.ntmps62
  go_wp2_with (first | (go_at_fn D.fTot; (with_reducible refine HT.mono ?_); rintro e w1 ⟨rfl, h1, hf1⟩; have HE := D.cEmp most xs S p w1 h1 hf; have hM2 := D.mEmp p; have hE2 := D.eEmp; have HF1 := Lib.hid hf1; clear h1 hf1 HT hM1 hE1) | (go_at_fn D.fEmp; (with_reducible refine HE.mono ?_); rintro e w2 ⟨rfl, h2, hf2⟩; have h2' := K.fr most xs S p (fun _ => False) w2 (w2.alloc (.cells #[.slice none 0 0, .float .f64 (nf (tot xs)), .bool xs.isEmpty, .int .i64 0, .int .i64 0] 38)) h2 ((Fr.refl _ w2).alloc _) (fun _ _ h => h); have HBN := D.cBin most xs S p _ h2' hf; have hM3 := D.mBin p; have hE3 := D.eBin; have HF2 := Lib.hid hf2; clear h2 h2' hf2 HE hM2 hE2) | (go_at_fn D.fBin; (with_reducible refine HBN.mono ?_); rintro e w3 ⟨⟨ab, cb, rfl, hown3, hblk3⟩, h3, hf3⟩; have HO3 := Lib.hid hown3; have HB3 := Lib.hid hblk3; have H3 := Lib.hid h3; have HF3 := Lib.hid hf3; clear hown3 hblk3 h3 hf3 HBN hM3 hE3))
  obtain ⟨ks, hks⟩ : ∃ ks, ks = keptB kind most xs := ⟨_, rfl⟩
  rw [← hks] at HO3 HB3 ⊢
  have hf1' := HF1.out
  rw [← HW0.out] at hf1'
  have hF02 : Fr S w0 w2 := hf1'.trans HF2.out (fun _ _ h => h) (fun _ _ h => h)
  have hF2 : Fr S w w2 := HF0.out.trans hF02 (fun _ _ h => h) (fun _ _ h => h)
  have hs2 : w.heap.size + 1 ≤ w2.heap.size := by have := hF02.size; rw [HS0.out] at this; exact this
  obtain ⟨o3, ho3⟩ : ∃ o3, o3 = Obj.cells #[.slice none 0 0, .float .f64 (nf (tot xs)), .bool xs.isEmpty, .int .i64 0, .int .i64 0] 38 := ⟨_, rfl⟩
  have hf3 := HF3.out
  rw [← ho3] at hf3
  have hF3 : Fr S w w3 := (hF2.alloc o3).trans hf3 (fun _ _ h => h) (fun _ _ h => h)
  have hs3 : w2.heap.size + 1 ≤ w3.heap.size := by have := hf3.size; simpa using this
  have hz3 : w3.heap[w.heap.size]? = some (.cells #[.slice none 0 0, .float .f64 0, .bool false, .int .i64 0, .int .i64 0] 38 (0, 0)) :=
    hf3.heap ((Below.heap_alloc w2 o3 _ (by omega)).trans (hF02.heap HZ0.out (fun h => HSZ.out _ h (Nat.le_refl _)))) (fun h => HSZ.out _ h (Nat.le_refl _))
  have hb3 : StBox w3 w2.heap.size (.slice none 0 0) (.float .f64 (nf (tot xs))) (.bool xs.isEmpty) (.int .i64 0) (.int .i64 0) (fb (ks.take 0)) := by
    refine ⟨hf3.heap ?_ (fun h => HSZ.out _ h (by omega)), World.ownsRow_nil _ _ _ _⟩
    rw [ho3]; exact heap_alloc_new w2 _
  have HFW := Lib.hid hF3
  have HZ3 := Lib.hid hz3
  have HBX := Lib.hid hb3
  have HS2 := Lib.hid hs2
  have HS3 := Lib.hid hs3
  clear hf1' hF02 hF2 hs2 hf3 hF3 hs3 hz3 hb3 ho3 HF0 HF1 HF2 HF3 HZ0 HS0 HW0
  have hkl : ks.length ≤ 2147483647 := by rw [hks]; have := kept_len kind most xs; have := hf.len; omega
  have HKS := Lib.hid hks
  clear hks
  go_wp2
  go_loopw [18] (fun i wr => StateRel K most xs S p w2.heap.size ks ab cb w wr i) (fun i _ => ks.length - (intOf i).toNat)
  case atStart => exact ⟨0, none, 0, Nat.zero_le _, rfl, H3.out, HBX.out, (fun b hb => by simp [Value.ownBlock] at hb), HO3.out, HZ3.out, HFW.out⟩
  case round =>
    obtain ⟨k, ar, cr, hk, rfl, hst, hbx, hob, how, hz, hfr⟩ := hrel
    by_cases hlt : k < ks.length
    · have hlie : Lie2 wr ab (fb ks) := by
        rw [← fb_length ks] at how
        exact (lie2_of_owns how).2.2.2
      rcases hlie with e0 | ⟨g, off, rfl, hcell⟩
      · have := congrArg List.length e0; rw [fb_length, List.length_nil] at this; omega
      obtain ⟨c0, c1⟩ := hcell k (by rw [fb_length]; exact hlt)
      rw [fb_get] at c0 c1
      dsimp only at c0 c1
      have htk : ks.take (k + 1) = ks.take k ++ [ks[k]] := List.take_succ_eq_append_getElem hlt
      have hfk : fb (ks.take (k + 1)) = fb (ks.take k) ++ [(ks[k].1, nf ks[k].2)] := by rw [htk, fb_append]; rfl
      obtain ⟨x, hx⟩ : ∃ x, x = ks[k].1 := ⟨_, rfl⟩
      obtain ⟨b, hbb⟩ : ∃ b, b = nf ks[k].2 := ⟨_, rfl⟩
      rw [← hx] at c0 hfk
      rw [← hbb] at c1 hfk
      have hfl : (fb (ks.take k)).length = k := by rw [fb_length, List.length_take]; omega
      obtain ⟨w5, hw5⟩ : ∃ w5, w5 = wr.alloc (.cells #[.int .i64 x, .float .f64 b] 145) := ⟨_, rfl⟩
      have hF5 : Fr (fun _ => False) wr w5 := by rw [hw5]; exact (Fr.refl _ wr).alloc _
      have hbx5 := hbx.fr hF5 (fun h => h) (fun _ _ h => h)
      have ht5 : w5.heap[wr.heap.size]? = some (.cells #[.int .i64 x, .float .f64 b] 145 (0, 0)) := by rw [hw5]; exact heap_alloc_new wr _
      have HF5 := Lib.hid hF5
      have HBX5 := Lib.hid hbx5
      have HBXR := Lib.hid hbx
      have HT5 := Lib.hid ht5
      have HFK := Lib.hid hfk
      have HFL := Lib.hid hfl
      have HST := Lib.hid hst
      have HOB := Lib.hid hob
      have HOW := Lib.hid how
      have HZ := Lib.hid hz
      have HFR := Lib.hid hfr
      have HW5 := Lib.hid hw5
      clear hF5 hbx5 ht5 hfk hfl hst hob how hz hfr hw5 htk hx hbb hcell hbx
      have hx82 : ∀ w', Below w5.heap.size w5 w' → Calls Tryz.prog 82 #[.agg #[.int .i64 x, .float .f64 b]] w' fun e w6 => e = .returned (.int .i64 x) ∧ Below w5.heap.size w5 w6 ∧ (w6.cell? ⟨wr.heap.size, 0, none⟩ = some (.int .i64 x) ∧ w6.cell? ⟨wr.heap.size, 1, none⟩ = some (.float .f64 b)) ∧ w6.cell? ⟨w2.heap.size, 0, none⟩ = some (.slice ar k cr) := by
        intro w' hb'
        refine (binIndex_any x b w').mono fun e w6 ⟨a1, a2⟩ => ?_
        have hj := hb'.trans (a2.mono hb'.size)
        have q := (hj.5 _ (lt_of_block HT5.out)).trans HT5.out
        exact ⟨a1, hj, ⟨cell_of_row _ _ 0 _ _ _ q, cell_of_row _ _ 1 _ _ _ q⟩, (HBX5.out.later hj).cells.1⟩
      have hx83 : ∀ w', Below w5.heap.size w5 w' → Calls Tryz.prog 83 #[.agg #[.int .i64 x, .float .f64 b]] w' fun e w6 => e = .returned (.float .f64 b) ∧ Below w5.heap.size w5 w6 ∧ (w6.cell? ⟨wr.heap.size, 0, none⟩ = some (.int .i64 x) ∧ w6.cell? ⟨wr.heap.size, 1, none⟩ = some (.float .f64 b)) ∧ w6.cell? ⟨w2.heap.size, 0, none⟩ = some (.slice ar k cr) := by
        intro w' hb'
        refine (binCount_any x b w').mono fun e w6 ⟨a1, a2⟩ => ?_
        have hj := hb'.trans (a2.mono hb'.size)
        have q := (hj.5 _ (lt_of_block HT5.out)).trans HT5.out
        exact ⟨a1, hj, ⟨cell_of_row _ _ 0 _ _ _ q, cell_of_row _ _ 1 _ _ _ q⟩, (HBX5.out.later hj).cells.1⟩
      have HX82 := Lib.hid hx82
      have HX83 := Lib.hid hx83
      have hj5 : Below w5.heap.size w5 w5.drew := (Below.refl _ w5).drew
      have hs0 : w5.cell? ⟨wr.heap.size, 0, none⟩ = some (.int .i64 x) ∧ w5.cell? ⟨wr.heap.size, 1, none⟩ = some (.float .f64 b) := ⟨cell_of_row _ _ 0 _ _ _ HT5.out, cell_of_row _ _ 1 _ _ _ HT5.out⟩
      have hs1 : w5.drew.cell? ⟨wr.heap.size, 0, none⟩ = some (.int .i64 x) ∧ w5.drew.cell? ⟨wr.heap.size, 1, none⟩ = some (.float .f64 b) := hs0
      have hc5 : w5.drew.cell? ⟨w2.heap.size, 0, none⟩ = some (.slice ar k cr) := HBX5.out.cells.1
      clear hx82 hx83
      go_wp2_with fail
      rw [← HW5.out]
      refine wpT_begin (fun w' => (w'.cell? ⟨wr.heap.size, 0, none⟩ = some (.int .i64 x) ∧ w'.cell? ⟨wr.heap.size, 1, none⟩ = some (.float .f64 b)) ∧ w'.cell? ⟨w2.heap.size, 0, none⟩ = some (.slice ar k cr)) [8, 9, 10] (by kernel_rfl) (fun hc0 => ?_)
      refine wpT_take 0 rfl (by kernel_rfl) (by kernel_rfl) (by kernel_rfl) (by kernel_rfl) (fun _ _ _ h => h) (by rfl) (fun _ _ => rfl) ⟨hs1, hc5⟩ hc0 (fun hc1 => ?_)
      try simp only [List.getElem_toArray, List.getElem_cons_zero, List.getElem_cons_succ, Act.put, List.setIfInBounds_toArray, List.set_cons_zero, List.set_cons_succ]
      refine wpT_take (v := .slice ar k cr) 1 rfl (by kernel_rfl) (by kernel_rfl) (by kernel_rfl) (by kernel_rfl) (fun _ _ _ h => h) (by rfl) ?_ ⟨hs1, hc5⟩ hc1 (fun hc2 => ?_)
      · rintro w' ⟨⟨hq1, hq2⟩, hq3⟩
        go_simp
      try simp only [List.getElem_toArray, List.getElem_cons_zero, List.getElem_cons_succ, Act.put, List.setIfInBounds_toArray, List.set_cons_zero, List.set_cons_succ]
      refine wpT_take (v := .agg #[.int .i64 x, .float .f64 b]) 2 rfl (by kernel_rfl) (by kernel_rfl) (by kernel_rfl) (by kernel_rfl) (fun _ _ _ h => h) (by rfl) ?_ ⟨hs1, hc5⟩ hc2 (fun hc3 => ?_)
      · rintro w' ⟨⟨hq1, hq2⟩, hq3⟩
        go_simp
      try simp only [List.getElem_toArray, List.getElem_cons_zero, List.getElem_cons_succ, Act.put, List.setIfInBounds_toArray, List.set_cons_zero, List.set_cons_succ]
      refine wpT_take (v := .agg #[.int .i64 x, .float .f64 b]) 4 rfl (by kernel_rfl) (by kernel_rfl) (by kernel_rfl) (by kernel_rfl) (fun _ _ _ h => h) (by rfl) ?_ ⟨hs1, hc5⟩ hc3 (fun hc4 => ?_)
      · rintro w' ⟨⟨hq1, hq2⟩, hq3⟩
        go_simp
      try simp only [List.getElem_toArray, List.getElem_cons_zero, List.getElem_cons_succ, Act.put, List.setIfInBounds_toArray, List.set_cons_zero, List.set_cons_succ]
      refine wpT_one 3 rfl (by kernel_rfl) hc4 (fun KK hKK => ?_)
      try simp only [List.getElem_toArray, List.getElem_cons_zero, List.getElem_cons_succ]
      rw [if_pos (by rfl)]
      go_simp
      go_at_call 82
      refine (HX82.out _ hj5).mono ?_
      rintro e w6 ⟨rfl, hj6, hs6, hc6⟩
      refine hKK.out _ _ (fun _ => ⟨hs6, hc6⟩) (fun hd1 => ?_)
      clear hKK KK
      try simp only [List.getElem_toArray, List.getElem_cons_zero, List.getElem_cons_succ, Act.put, List.setIfInBounds_toArray, List.set_cons_zero, List.set_cons_succ]
      refine wpT_one 5 rfl (by kernel_rfl) hd1 (fun KK hKK => ?_)
      try simp only [List.getElem_toArray, List.getElem_cons_zero, List.getElem_cons_succ]
      rw [if_pos (by rfl)]
      go_simp
      go_at_call 83
      refine (HX83.out _ hj6).mono ?_
      rintro e w7 ⟨rfl, hj7, hs7, hc7⟩
      refine hKK.out _ _ (fun _ => ⟨hs7, hc7⟩) (fun hd2 => ?_)
      clear hKK KK
      try simp only [List.getElem_toArray, List.getElem_cons_zero, List.getElem_cons_succ, Act.put, List.setIfInBounds_toArray, List.set_cons_zero, List.set_cons_succ]
      refine wpT_one 6 rfl (by kernel_rfl) hd2 (fun KK hKK => ?_)
      try simp only [List.getElem_toArray, List.getElem_cons_zero, List.getElem_cons_succ]
      rw [if_pos (by rfl)]
      go_simp
      refine hKK.out _ _ (fun _ => ⟨hs7, hc7⟩) (fun hd3 => ?_)
      clear hKK KK
      try simp only [List.getElem_toArray, List.getElem_cons_zero, List.getElem_cons_succ, Act.put, List.setIfInBounds_toArray, List.set_cons_zero, List.set_cons_succ]
      refine wpT_one 7 rfl (by kernel_rfl) hd3 (fun KK hKK => ?_)
      try simp only [List.getElem_toArray, List.getElem_cons_zero, List.getElem_cons_succ]
      rw [if_pos (by rfl)]
      go_simp
      have hbx7 := HBX5.out.later hj7
      have hs8 : ((w7.alloc (.cells #[.int .i64 x, .float .f64 b] 62)).cell? ⟨wr.heap.size, 0, none⟩ = some (.int .i64 x) ∧ (w7.alloc (.cells #[.int .i64 x, .float .f64 b] 62)).cell? ⟨wr.heap.size, 1, none⟩ = some (.float .f64 b)) ∧ (w7.alloc (.cells #[.int .i64 x, .float .f64 b] 62)).cell? ⟨w2.heap.size, 0, none⟩ = some (.slice ar k cr) := by
        have hb8 : Below w7.heap.size w7 (w7.alloc (.cells #[.int .i64 x, .float .f64 b] 62)) := (Below.refl _ w7).alloc (Nat.le_refl _) _
        exact ⟨⟨(hb8.cell (World.block_lt_of_cell? w7 _ hs7.1)).trans hs7.1, (hb8.cell (World.block_lt_of_cell? w7 _ hs7.2)).trans hs7.2⟩, (hbx7.later hb8).cells.1⟩
      refine hKK.out _ _ (fun _ => hs8) (fun hd4 => ?_)
      clear hKK KK
      try simp only [List.getElem_toArray, List.getElem_cons_zero, List.getElem_cons_succ, Act.put, List.setIfInBounds_toArray, List.set_cons_zero, List.set_cons_succ]
      refine wpT_one 8 rfl (by kernel_rfl) hd4 (fun KK hKK => ?_)
      try simp only [List.getElem_toArray, List.getElem_cons_zero, List.getElem_cons_succ]
      rw [if_pos (by rfl)]
      have hrow7 := hbx7.row
      rw [HFL.out] at hrow7
      refine wp_append_pair w7 w7.heap.size rfl x b _ _ 22 62 rfl (.agg #[.int .i64 0, .float .f64 0]) 16 Tryz.underlying22 Tryz.infoIB rfl (.slice ar k cr) k (fb (ks.take k)) rfl hrow7 rfl (by omega) (by decide) ?_
      intro ao1 cp1 w8 hown' hgrow hblk
      have hpush := hbx7.push (x := (x, b)) (by rw [HFL.out]; exact hown') hgrow hblk
      have ck8 := hpush.1
      have fk8 := hpush.2.1
      have HPU := Lib.hid hpush.2.2
      have HBL := Lib.hid hblk
      clear hpush hown' hgrow hblk hrow7
      refine hKK.out _ _ (fun h => by cases h) (fun hd5 => ?_)
      clear hKK KK
      try simp only [List.getElem_toArray, List.getElem_cons_zero, List.getElem_cons_succ, Act.put, List.setIfInBounds_toArray, List.set_cons_zero, List.set_cons_succ]
      refine wpT_one 9 rfl (by kernel_rfl) hd5 (fun KK hKK => ?_)
      try simp only [List.getElem_toArray, List.getElem_cons_zero, List.getElem_cons_succ]
      rw [if_pos (by rfl)]
      go_simp
      refine hKK.out _ _ (fun h => by cases h) (fun hd6 => ?_)
      clear hKK KK
      try simp only [List.getElem_toArray, List.getElem_cons_zero, List.getElem_cons_succ, Act.put, List.setIfInBounds_toArray, List.set_cons_zero, List.set_cons_succ]
      refine wpT_one 10 rfl (by kernel_rfl) hd6 (fun KK hKK => ?_)
      try simp only [List.getElem_toArray, List.getElem_cons_zero, List.getElem_cons_succ]
      rw [if_pos (by rfl)]
      go_simp
      refine hKK.out _ _ (fun h => by cases h) (fun hd7 => ?_)
      clear hKK KK
      try simp only [List.getElem_toArray, List.getElem_cons_zero, List.getElem_cons_succ, Act.put, List.setIfInBounds_toArray, List.set_cons_zero, List.set_cons_succ]
      refine wpT_done (by kernel_rfl) ?_ _
      have HJ7 := Lib.hid hj7
      clear hj5 hj6 hj7 hs0 hs1 hs6 hs7 hs8 hc5 hc6 hc7 hbx7 HX82 HX83 hc0 hc1 hc2 hc3 hc4 hd1 hd2 hd3 hd4 hd5 hd6 hd7 c0 c1 ck8 fk8
      go_wp2
      go_roundw
      case rel =>
        obtain ⟨W9, hW9⟩ : ∃ W9, W9 = w8.setCell ⟨w2.heap.size, 0, none⟩ (.slice ao1 (k + 1) cp1) := ⟨_, rfl⟩
        rw [← hW9]
        have hpu := HPU.out
        rw [← hW9] at hpu
        have f57 : Fr (fun _ => False) wr w7 := HF5.out.trans (Fr.of_below HJ7.out) (fun _ _ h => h) (fun i hi h => by have := HF5.out.size; omega)
        have f59 : Fr (fun b => b = w2.heap.size ∨ (Value.slice ar k cr).ownBlock = some b) wr W9 := f57.trans hpu.2 (fun _ _ h => h.elim) (fun _ _ h => h)
        have hws := HFR.out.size
        have hs75 := f57.size
        have hlow : ∀ b, (b = w2.heap.size ∨ (Value.slice ar k cr).ownBlock = some b) → w.heap.size ≤ b := fun b hb => by
          rcases hb with e | e
          · rw [e]; have := HS2.out; omega
          · exact HOB.out b e
        refine ⟨k + 1, ao1, cp1, by omega, by go_num, K.fr most xs S p _ wr W9 HST.out f59 (fun i hi h => HSZ.out i hi (hlow i h)), ?_, fun b hb => ?_, HOW.out |> fun h => f59.owns h (fun b hb h2 => ?_), f59.heap HZ.out (fun h => ?_), (HFR.out.trans f59 (fun _ _ h => h) (fun i hi h => absurd hi (Nat.not_lt.2 (hlow i h))))⟩
        · rw [HFK.out]; exact hpu.1
        · rcases HBL.out with h | h
          · exact HOB.out b (by rw [← h]; exact hb)
          · have h3 := Option.some.inj (h.symm.trans hb)
            omega
        · obtain ⟨_, hc⟩ := owns_tag2 HOW.out hb
          rcases h2 with e | e
          · exact tag_ne hc HBXR.out.box (by decide) e
          · obtain ⟨_, hc2⟩ := owns_tag2 HBXR.out.row e
            exact tag_ne hc hc2 (by decide) rfl
        · rcases h with e | e
          · have := HS2.out; omega
          · obtain ⟨_, hc2⟩ := owns_tag2 HBXR.out.row e
            exact tag_ne HZ.out hc2 (by decide) rfl
      case measure => simp [intOf]; omega
    · obtain rfl : k = ks.length := by omega
      rw [List.take_length] at hbx
      have hnS : ¬ S w2.heap.size := fun h => HSZ.out _ h (by have := HS2.out; omega)
      have hnB : ∀ b, (Value.slice ar ks.length cr).ownBlock = some b → ¬ S b := fun b hb h => HSZ.out b h (hob b hb)
      have hnZ : ¬ S w.heap.size := fun h => HSZ.out _ h (Nat.le_refl _)
      have HFR := Lib.hid hfr
      have HOB := Lib.hid hob
      have HNS := Lib.hid hnS
      have HNB := Lib.hid hnB
      have HNZ := Lib.hid hnZ
      have HBX := Lib.hid hbx
      have HZ := Lib.hid hz
      have HOW := Lib.hid how
      by_cases hx : xs = []
      · have hM1 := D.mMin p
        have hE1 := D.eMin
        have hM2 := D.mMax p
        have hE2 := D.eMax
        subst hx
        have HMN := D.cMinE most S p wr hst hf
        clear hlt hk hfr hob how hz hbx hnS hnB hnZ hst
        go_wp2_with (first | (go_at_fn D.fMin; (with_reducible refine HMN.mono ?_); rintro e wm ⟨⟨T1, v1, rfl⟩, hm, hfm⟩; have HMX := D.cMaxE most S p wm hm hf; have HFM := Lib.hid hfm; clear hm hfm HMN) | (go_at_fn D.fMax; (with_reducible refine HMX.mono ?_); rintro e wx ⟨⟨T2, v2, rfl⟩, hm, hfm⟩; have hbX := (HBX.out.fr HFM.out HNS.out HNB.out).fr hfm HNS.out HNB.out; have hzX := hfm.heap (HFM.out.heap HZ.out HNZ.out) HNZ.out; obtain ⟨q0, q1, q2, q3, q4⟩ := hbX.cells; obtain ⟨z0, z1, z2, z3, z4⟩ := state_cells hzX; have y0 := frozen_of_row wx w.heap.size 0 _ _ hzX; have y1 := frozen_of_row wx w.heap.size 1 _ _ hzX; have y2 := frozen_of_row wx w.heap.size 2 _ _ hzX; have y3 := frozen_of_row wx w.heap.size 3 _ _ hzX; have y4 := frozen_of_row wx w.heap.size 4 _ _ hzX; have HFX := Lib.hid hfm; have HBX9 := Lib.hid hbX; clear HMX hm hfm hbX hzX))
        have hzx := HFX.out.heap (HFM.out.heap HZ.out HNZ.out) HNZ.out
        have h5 := state_set5 (.slice ar ks.length cr) (.float .f64 (nf (tot []))) (.bool true) (.int .i64 0) (.int .i64 0) hzx
        have H5 := Lib.hid h5
        have HZX := Lib.hid hzx
        clear h5 hzx
        refine bodyPost_ret (v := .agg #[.slice ar ks.length cr, .float .f64 (nf (tot [])), .bool true, .int .i64 0, .int .i64 0]) (by simp only [results, Tryz.results62]; simp [go_sem, z0, z1, z2, z3, z4]) rfl ?_
        have hro := H5.out.2.owns HBX9.out.row (fun b hb h => by obtain ⟨_, hc⟩ := owns_tag2 HBX9.out.row hb; exact tag_ne hc HZX.out (by decide) h)
        rw [fb_length] at hro
        rw [← HKS.out]
        refine ⟨⟨_, rfl, ar, cr, rfl, hro, HOB.out⟩, (HFR.out.trans (HFM.out.trans HFX.out (fun _ _ h => h) (fun _ _ h => h)) (fun _ _ h => h) (fun _ _ h => h)).trans H5.out.2 (fun _ _ h => h) (fun i hi h => by omega)⟩
      · have hM1 := D.mMin p
        have hE1 := D.eMin
        have hM2 := D.mMax p
        have hE2 := D.eMax
        have HMN := D.cMin most xs S p wr hst hf hx
        rw [← HKS.out] at HMN
        obtain ⟨mi, hmi⟩ : ∃ mi, mi = firstI ks := ⟨_, rfl⟩
        rw [← hmi] at HMN
        have HMI := Lib.hid hmi
        obtain ⟨ma, hma⟩ : ∃ ma, ma = lastI ks := ⟨_, rfl⟩
        have HMA := Lib.hid hma
        clear hma
        have hn1 : w.heap.size ≠ w2.heap.size := by have := HS2.out; omega
        have hn2 : w2.heap.size ≠ w.heap.size := by have := HS2.out; omega
        have HXN := Lib.hid hx
        clear hlt hk hfr hob how hz hbx hnS hnB hnZ hst hmi hx
        go_wp2_with (first | (go_at_fn D.fMin; (with_reducible refine HMN.mono ?_); rintro e wm ⟨rfl, hm, hfm⟩; have hbm := HBX.out.fr hfm HNS.out HNB.out; have q3 := hbm.cells.2.2.2.1; have p3 := frozen_of_row wm w2.heap.size 3 _ _ hbm.box; have HBM := Lib.hid (hbm.set3 (.int .i64 mi)); have HMX := D.cMax most xs S p _ (K.fr most xs S p _ wm _ hm (fr_setCell wm w2.heap.size 3 (.int .i64 mi)) (fun k hk e => HNS.out (by rw [← e]; exact hk))) hf HXN.out; rw [← HKS.out, ← HMA.out] at HMX; have HZM := Lib.hid ((fr_setCell wm w2.heap.size 3 (.int .i64 mi)).heap (hfm.heap HZ.out HNZ.out) hn1); have HFM := Lib.hid ((HFR.out.trans hfm (fun _ _ h => h) (fun _ _ h => h)).trans (fr_setCell wm w2.heap.size 3 (.int .i64 mi)) (U := fun b => S b ∨ b = w2.heap.size) (fun _ _ h => .inl h) (fun _ _ h => .inr h)); clear hm hfm hbm HMN) | (go_at_fn D.fMax; (with_reducible refine HMX.mono ?_); rintro e wx ⟨rfl, hm, hfm⟩; have hbX := HBM.out.fr hfm HNS.out HNB.out; have hzX := hfm.heap HZM.out HNZ.out; obtain ⟨q0, q1, q2, q3, q4⟩ := hbX.cells; have p4 := frozen_of_row wx w2.heap.size 4 _ _ hbX.box; obtain ⟨z0, z1, z2, z3, z4⟩ := state_cells hzX; have y0 := frozen_of_row wx w.heap.size 0 _ _ hzX; have y1 := frozen_of_row wx w.heap.size 1 _ _ hzX; have y2 := frozen_of_row wx w.heap.size 2 _ _ hzX; have y3 := frozen_of_row wx w.heap.size 3 _ _ hzX; have y4 := frozen_of_row wx w.heap.size 4 _ _ hzX; have HFX := Lib.hid hfm; have HBX9 := Lib.hid hbX; have HZX := Lib.hid hzX; clear HMX hm hfm hbX hzX))
        have hzx := (fr_setCell wx w2.heap.size 4 (.int .i64 ma)).heap HZX.out hn1
        have h5 := state_set5 (.slice ar ks.length cr) (.float .f64 (nf (tot xs))) (.bool xs.isEmpty) (.int .i64 mi) (.int .i64 ma) hzx
        have H5 := Lib.hid h5
        clear h5 hzx
        refine bodyPost_ret (v := .agg #[.slice ar ks.length cr, .float .f64 (nf (tot xs)), .bool xs.isEmpty, .int .i64 mi, .int .i64 ma]) (by simp only [results, Tryz.results62]; simp [go_sem, z0, z1, z2, z3, z4]) rfl ?_
        have hro := H5.out.2.owns (HBX9.out.set4 (.int .i64 ma)).row (fun b hb h => by obtain ⟨_, hc⟩ := owns_tag2 HBX9.out.row hb; exact tag_ne hc HZX.out (by decide) h)
        rw [fb_length] at hro
        rw [← HKS.out]
        have hv : Value.agg #[.slice ar ks.length cr, .float .f64 (nf (tot xs)), .bool xs.isEmpty, .int .i64 mi, .int .i64 ma] = .agg #[.slice ar ks.length cr, .float .f64 (nf (tot xs)), .bool xs.isEmpty, .int .i64 (lowE xs ks), .int .i64 (topE xs ks)] := by
          unfold lowE topE; rw [if_neg HXN.out, if_neg HXN.out, HMI.out, HMA.out]
        refine ⟨⟨_, rfl, ar, cr, hv, hro, HOB.out⟩, ?_⟩
        have hs2 := HS2.out
        exact (HFM.out.trans (HFX.out.trans (fr_setCell _ _ _ _) (U := fun b => S b ∨ b = w2.heap.size) (fun _ _ h => .inl h) (fun _ _ h => .inr h)) (U := S) (fun i hi h => h.elim id (fun e => by omega)) (fun i hi h => h.elim id (fun e => by omega))).trans H5.out.2 (fun _ _ h => h) (fun i hi h => by omega)
end Go.Proofs.YtnmbjalojgccmaaGreat
end
/-
  impl.told: the state of a store that a closure makes.
-/
section
namespace Go.Proofs.YtnmbjalojgccmaaGreat
open Go.RowKit

/-- A closure's answer: a store with the bins. -/
def GivesStore {kind : Int} (K : StoreKind kind) (most : Int) (xs : Bins) (w : World) (e : Ending) (w' : World) : Prop :=
  ∃ p S, e = .returned (.tuple #[.iface K.T (.pointer (some ⟨p, 0, none⟩)), .bool true]) ∧ K.St most xs S p w' ∧ (∀ b, S b → w.heap.size ≤ b) ∧ Fr (fun _ => False) w w'

/-- The cells of a state. -/
def stateV (ao : Option Addr) (c : Nat) (xs ks : Bins) : Array Value := #[.slice ao ks.length c, .float .f64 (nf (tot xs)), .bool xs.isEmpty, .int .i64 (lowE xs ks), .int .i64 (topE xs ks)]

/-- In block t1 the state lies, in block t2 'true'. -/
def ToldIn (xs ks : Bins) (t1 t2 : Nat) (w w' : World) : Prop :=
  ∃ ao c, w'.heap[t1]? = some (.cells (stateV ao c xs ks) 38 (0, 0)) ∧ w'.heap[t2]? = some (.cells #[.bool true] 4 (0, 0)) ∧
    w'.ownsRow 0 62 2 (.slice ao ks.length c) ks.length (pc (fb ks)) ∧ (∀ k, (Value.slice ao ks.length c).ownBlock = some k → w.heap.size ≤ k) ∧ Fr (fun b => b = t1 ∨ b = t2) w w'

set_option maxRecDepth 100000 in
set_option maxHeartbeats 400000 in
theorem told1_any {kind : Int} {K : StoreKind kind} (D : ToldKind K) (most : Int) (xs : Bins) (F : FuncId) (caps : Array Value) (t0 t1 t2 : Nat) (w : World) (hfew : Few kind most xs)
   (hE : ∀ w, (callFunc F caps).run Tryz.prog w = .ok (.enter F caps) w)
   (h0 : w.cell? ⟨t0, 0, none⟩ = some (.func (.func F) #[] caps))
   (h1 : w.heap[t1]? = some (.cells #[.slice none 0 0, .float .f64 0, .bool false, .int .i64 0, .int .i64 0] 38 (0, 0))) (h2 : w.heap[t2]? = some (.cells #[.bool false] 4 (0, 0)))
   (hF : Calls Tryz.prog F caps w fun e w1 => GivesStore K most xs w e w1) :
    Calls Tryz.prog 61 #[.pointer (some ⟨t0, 0, none⟩), .pointer (some ⟨t1, 0, none⟩), .pointer (some ⟨t2, 0, none⟩)] w fun e w' => e = .returned (.tuple #[]) ∧ ToldIn xs (keptB kind most xs) t1 t2 w w' := by
  have hlt1 := lt_of_block h1
  have hlt2 := lt_of_block h2
  have h12 : t1 ≠ t2 := tag_ne h1 h2 (by decide)
  have H1 := Lib.hid h1
  have H2 := Lib.hid h2
  have HFEW := Lib.hid hfew
  have HL1 := Lib.hid hlt1
  have HL2 := Lib.hid hlt2
  have H12 := Lib.hid h12
  clear h1 h2 hfew hlt1 hlt2 h12
  go_enter Tryz.func61, Tryz.ntmps61
  go_wp2_with fail
  refine hF.mono ?_
  clear hF
  rintro e w1 ⟨p, S, rfl, hst, hS, hf1⟩
  have HST := state_any D most xs S p w1 hst HFEW.out
  have HS := Lib.hid hS
  have HF1 := Lib.hid hf1
  clear hst hS hf1 h0 hE
  go_wp2_with fail
  refine HST.mono ?_
  clear HST
  rintro e w2 ⟨⟨v, rfl, ao, c, rfl, hrow, hblk⟩, hf2⟩
  have hf12 : Fr (fun _ => False) w w2 := HF1.out.trans hf2 (fun _ _ h => h) (fun i hi h => absurd hi (Nat.not_lt.2 (HS.out i h)))
  have g1 := hf12.heap H1.out (fun h => h)
  have g2 := hf12.heap H2.out (fun h => h)
  have s5 := state_set5 (.slice ao (keptB kind most xs).length c) (.float .f64 (nf (tot xs))) (.bool xs.isEmpty) (.int .i64 (lowE xs (keptB kind most xs))) (.int .i64 (topE xs (keptB kind most xs))) g1
  obtain ⟨ks, hks⟩ : ∃ ks, ks = keptB kind most xs := ⟨_, rfl⟩
  rw [← hks] at hrow hblk s5 ⊢
  have y0 := frozen_of_row w2 t1 0 _ _ g1
  have y1 := frozen_of_row w2 t1 1 _ _ g1
  have y2 := frozen_of_row w2 t1 2 _ _ g1
  have y3 := frozen_of_row w2 t1 3 _ _ g1
  have y4 := frozen_of_row w2 t1 4 _ _ g1
  obtain ⟨z0, z1, z2, z3, z4⟩ := state_cells g1
  have u0 := cell_of_one g2
  have u1 := free_of_one g2
  have HS5 := Lib.hid s5
  have G2 := Lib.hid g2
  have HF12 := Lib.hid hf12
  have HROW := Lib.hid hrow
  have HBLK := Lib.hid hblk
  have G1 := Lib.hid g1
  have HKS := Lib.hid hks
  have n12 := H12.out
  have n21 := H12.out.symm
  clear s5 g1 g2 hf12 hrow hblk hks hf2 HS H1 H2
  go_wp2
  go_end0
  rw [← HKS.out]
  obtain ⟨a1, a2⟩ := HS5.out
  have b1 : ∀ k, (Value.slice ao ks.length c).ownBlock = some k → k ≠ t1 := fun k hk => by
    obtain ⟨_, hc⟩ := owns_tag2 HROW.out hk; exact tag_ne hc G1.out (by decide)
  have b2 : ∀ k, (Value.slice ao ks.length c).ownBlock = some k → k ≠ t2 := fun k hk => by
    obtain ⟨_, hc⟩ := owns_tag2 HROW.out hk; exact tag_ne hc G2.out (by decide)
  refine ⟨rfl, ao, c, (Below.heap_setCell _ _ _ _ n12).trans a1, one_setCell (a2.heap G2.out n21), ownsRow_setCell_other (a2.owns HROW.out (fun k hk => b1 k hk)) (fun e => b2 _ e rfl) _, fun k hk => Nat.le_trans HF1.out.size (HBLK.out k hk), ?_⟩
  exact (HF12.out.trans a2 (U := fun b => b = t1 ∨ b = t2) (fun _ _ h => h.elim) (fun _ _ h => .inl h)).setCell (fun _ => .inr rfl) _

/-- The state of a store, told: its bins in a row of its own. -/
def TellsState (xs ks : Bins) (w : World) (e : Ending) (w' : World) : Prop :=
  ∃ ao c, e = .returned (.tuple #[.agg (stateV ao c xs ks), .bool true]) ∧ w'.ownsRow 0 62 2 (.slice ao ks.length c) ks.length (pc (fb ks)) ∧ (∀ k, (Value.slice ao ks.length c).ownBlock = some k → w.heap.size ≤ k) ∧ Below w.heap.size w w'

set_option maxRecDepth 100000 in
set_option maxHeartbeats 400000 in
theorem told_any {kind : Int} {K : StoreKind kind} (D : ToldKind K) (most : Int) (xs : Bins) (F : FuncId) (caps : Array Value) (w : World) (hfew : Few kind most xs)
   (hE : ∀ w, (callFunc F caps).run Tryz.prog w = .ok (.enter F caps) w)
   (hF : ∀ W, Fr (fun _ => False) w W → Calls Tryz.prog F caps W fun e w1 => GivesStore K most xs W e w1) :
    Calls Tryz.prog 36 #[.func (.func F) #[] caps] w fun e w' => TellsState xs (keptB kind most xs) w e w' := by
  have hmf : ∀ (fn : Fn) (first cap : Array Value) (w : World), (Instr.makeFunc fn first cap).run Tryz.prog w = .ok (.func fn first cap) w := fun _ _ _ _ => rfl
  obtain ⟨W, hW⟩ : ∃ W, W = ((w.alloc (.cells #[.func (.func F) #[] caps] 74)).alloc (.cells #[.slice none 0 0, .float .f64 0, .bool false, .int .i64 0, .int .i64 0] 38)).alloc (.cells #[.bool false] 4) := ⟨_, rfl⟩
  have hWs : W.heap.size = w.heap.size + 3 := by rw [hW]; simp
  have hFW : Fr (fun _ => False) w W := by rw [hW]; exact (((Fr.refl _ w).alloc _).alloc _).alloc _
  have hW0 : W.heap[w.heap.size]? = some (.cells #[.func (.func F) #[] caps] 74 (0, 0)) := by
    rw [hW, Below.heap_alloc _ _ _ (by simp <;> omega), Below.heap_alloc _ _ _ (by simp)]; exact heap_alloc_new w _
  have hW1 : W.heap[w.heap.size + 1]? = some (.cells #[.slice none 0 0, .float .f64 0, .bool false, .int .i64 0, .int .i64 0] 38 (0, 0)) := by
    rw [hW, Below.heap_alloc _ _ _ (by simp)]
    have := heap_alloc_new (w.alloc (.cells #[.func (.func F) #[] caps] 74)) (.cells #[.slice none 0 0, .float .f64 0, .bool false, .int .i64 0, .int .i64 0] 38)
    simpa using this
  have hW2 : W.heap[w.heap.size + 1 + 1]? = some (.cells #[.bool false] 4 (0, 0)) := by
    rw [hW]
    have := heap_alloc_new ((w.alloc (.cells #[.func (.func F) #[] caps] 74)).alloc (.cells #[.slice none 0 0, .float .f64 0, .bool false, .int .i64 0, .int .i64 0] 38)) (.cells #[.bool false] 4)
    simpa using this
  have hal : ∀ k, k < W.heap.size → (W.alloc (.cells #[.bool false] 4)).heap[k]? = W.heap[k]? := fun k hk => Below.heap_alloc _ _ _ hk
  have H := quietly_any 61 #[.pointer (some ⟨w.heap.size, 0, none⟩), .pointer (some ⟨w.heap.size + 1, 0, none⟩), .pointer (some ⟨w.heap.size + 1 + 1, 0, none⟩)] W
    (ToldIn xs (keptB kind most xs) (w.heap.size + 1) (w.heap.size + 1 + 1) (W.alloc (.cells #[.bool false] 4)))
    (fun w => enters_of Tryz.func61 (by kernel_rfl) rfl _ w)
    ((told1_any D most xs F caps w.heap.size (w.heap.size + 1) (w.heap.size + 1 + 1) (W.alloc (.cells #[.bool false] 4)) hfew hE (cell_of_row _ _ 0 _ _ _ ((hal _ (by omega)).trans hW0)) ((hal _ (by omega)).trans hW1) ((hal _ (by omega)).trans hW2) (hF _ (hFW.alloc _))).mono ?h4)
  case h4 =>
    rintro e w1 ⟨rfl, ao, c, h1, h2, h3, h4, h5⟩
    exact ⟨rfl, h5.heap (heap_alloc_new W _) (by omega), ao, c, h1, h2, h3, h4, h5⟩
  obtain ⟨ks, hks⟩ : ∃ ks, ks = keptB kind most xs := ⟨_, rfl⟩
  rw [← hks] at H
  have HKS := Lib.hid hks
  have HFW := Lib.hid hFW
  rw [hW] at H
  have HW := Lib.hid hW
  have HWs := Lib.hid hWs
  clear hW hWs hFW hW0 hW1 hW2 hal hF hE hfew hks
  go_enter Tryz.func36, Tryz.ntmps36
  go_wp2_with fail
  refine H.mono ?_
  clear H
  rintro e w2 ⟨rfl, w1, ⟨ao, c, q1, q2, q3, q4, q5⟩, hw2⟩
  rw [← HW.out] at q4 q5 hw2
  have hWs := HWs.out
  have hs1 := q5.size
  have hs0 : (W.alloc (.cells #[.bool false] 4)).heap.size = w.heap.size + 4 := by simp; omega
  have hcell : w1.heap[W.heap.size]? = some (.cells #[.bool false] 4 (0, 0)) := q5.heap (heap_alloc_new W _) (by omega)
  have g1 : w2.heap[w.heap.size + 1]? = some (.cells (stateV ao c xs ks) 38 (0, 0)) := by rw [hw2]; exact (Below.heap_setCell _ _ _ _ (by show _ ≠ W.heap.size; omega)).trans q1
  have g2 : w2.heap[w.heap.size + 1 + 1]? = some (.cells #[.bool true] 4 (0, 0)) := by rw [hw2]; exact (Below.heap_setCell _ _ _ _ (by show _ ≠ W.heap.size; omega)).trans q2
  have g3 : w2.ownsRow 0 62 2 (.slice ao ks.length c) ks.length (pc (fb ks)) := by
    rw [hw2]
    exact ownsRow_setCell_other q3 (fun e => by obtain ⟨_, hc⟩ := owns_tag2 q3 e; exact tag_ne hc hcell (by decide) rfl) _
  have g4 : Below w.heap.size w w2 := by
    rw [hw2]
    refine (Fr.below (S := fun k => w.heap.size ≤ k) ?_ (fun _ h => h) (Nat.le_refl _)).setCell (by show _ ≤ W.heap.size; omega) _
    exact (HFW.out.alloc _).trans q5 (fun _ _ h => h.elim) (fun i hi h => by omega)
  have y0 := frozen_of_row w2 (w.heap.size + 1) 0 _ _ g1
  have y1 := frozen_of_row w2 (w.heap.size + 1) 1 _ _ g1
  have y2 := frozen_of_row w2 (w.heap.size + 1) 2 _ _ g1
  have y3 := frozen_of_row w2 (w.heap.size + 1) 3 _ _ g1
  have y4 := frozen_of_row w2 (w.heap.size + 1) 4 _ _ g1
  obtain ⟨z0, z1, z2, z3, z4⟩ := state_cells g1
  have u0 := cell_of_one g2
  have u1 := free_of_one g2
  have G1 := Lib.hid g1
  have G2 := Lib.hid g2
  have G3 := Lib.hid g3
  have G4 := Lib.hid g4
  have Q4 : Hid (∀ k, (Value.slice ao ks.length c).ownBlock = some k → w.heap.size ≤ k) := fun k hk => by have := q4 k hk; omega
  clear q1 q2 q3 q4 q5 hw2 hWs hs1 hs0 hcell g1 g2 g3 g4 HFW
  go_wp2
  have s5 := state_set5 (.slice ao ks.length c) (.float .f64 (nf (tot xs))) (.bool xs.isEmpty) (.int .i64 (lowE xs ks)) (.int .i64 (topE xs ks)) G1.out
  have S5 := Lib.hid s5
  clear s5
  refine bodyPost_ret (v := .tuple #[.agg (stateV ao c xs ks), .bool true]) (by simp only [results, Tryz.results36, stateV]; simp [go_sem, z0, z1, z2, z3, z4, u0]) rfl ?_
  rw [← HKS.out]
  obtain ⟨a1, a2⟩ := S5.out
  have b1 : ∀ k, (Value.slice ao ks.length c).ownBlock = some k → k ≠ w.heap.size + 1 := fun k hk => by
    obtain ⟨_, hc⟩ := owns_tag2 G3.out hk; exact tag_ne hc G1.out (by decide)
  have b2 : ∀ k, (Value.slice ao ks.length c).ownBlock = some k → k ≠ w.heap.size + 1 + 1 := fun k hk => by
    obtain ⟨_, hc⟩ := owns_tag2 G3.out hk; exact tag_ne hc G2.out (by decide)
  refine ⟨ao, c, rfl, ownsRow_setCell_other (a2.owns G3.out (fun k hk => b1 k hk)) (fun e => b2 _ e rfl) _, Q4.out, ?_⟩
  exact (G4.out.trans (a2.below (B := w.heap.size) (fun k hk => by omega) G4.out.size)).setCell (by show _ ≤ w.heap.size + 1 + 1; omega) _
end Go.Proofs.YtnmbjalojgccmaaGreat
end
