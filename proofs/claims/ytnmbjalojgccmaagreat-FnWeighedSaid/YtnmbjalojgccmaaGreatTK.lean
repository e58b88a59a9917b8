/-
  Reweight of a dense store.
-/
import Derived.Test.YtnmbjalojgccmaaGreatQU
import Derived.StillTailTactics
section
namespace Go.Proofs.YtnmbjalojgccmaaGreat
open Go.RowKit
set_option exponentiation.threshold 3000

theorem nf_mul0 (k : Nat) (hk : k < 9007199254740992) : floatBits .mul .f64 (nf 0) (nf k) = some (nf (0 * k)) := by
  obtain ⟨m, i, h1, h2, h3⟩ := nf_read 0 (by decide)
  obtain ⟨n, j, k1, k2, k3⟩ := nf_read k hk
  show ((Ieee.double.read (nf 0)).product (Ieee.double.read (nf k))).map Ieee.double.write = _
  rw [h1, k1]
  show some (Ieee.double.nearest _ (m * n) (i + j)) = _
  have hm : m = 0 := by
    rw [sv_false] at h3
    have : m * 2 ^ (i + 1074).toNat = 0 := by
      have e : ((m * 2 ^ (i + 1074).toNat : Nat) : Int) = 0 := by rw [h3]; simp
      exact Int.ofNat.inj e
    rcases Nat.mul_eq_zero.1 this with h | h
    · exact h
    · exact absurd h (Nat.ne_of_gt (Nat.two_pow_pos _))
  subst hm
  rw [Nat.zero_mul, Nat.zero_mul, nf_zero]
  unfold Ieee.Format.nearest
  rw [if_pos rfl]
  rfl
theorem nf_mulz (a b : Nat) (hb : 0 < b) (hb2 : b < 9007199254740992) (h : a * b < 9007199254740992) : floatBits .mul .f64 (nf a) (nf b) = some (nf (a * b)) := by
  by_cases ha : a = 0
  · subst ha; exact nf_mul0 b hb2
  · exact nf_mul a b (by omega) hb h

theorem weigh_tests {k : Nat} (h1 : 2 ≤ k) (h2 : k ≤ 100) : (FloatKind.f64.format.order (nf k) 0 == some .lt || FloatKind.f64.format.order (nf k) 0 == some .eq) = false ∧ (FloatKind.f64.format.order (nf k) 4607182418800017408 == some .eq) = false := by
  constructor
  · conv => lhs; rw [← nf_zero]
    rw [nf_order k 0 (by omega) (by decide), Nat.compare_eq_gt.2 (by omega)]; rfl
  · rw [← nf_one, nf_order k 1 (by omega) (by decide), Nat.compare_eq_gt.2 (by omega)]; rfl

set_option maxRecDepth 100000 in
theorem reweighD1_any (p : Value) (w : World) : Calls Tryz.prog 210 #[p, .float .f64 (nf 1)] w fun e w' => e = .returned .nilIface ∧ w' = w := by
  have h0 : (FloatKind.f64.format.order 4607182418800017408 0 == some .lt || FloatKind.f64.format.order 4607182418800017408 0 == some .eq) = false := by decide +kernel
  have h1 : (FloatKind.f64.format.order 4607182418800017408 4607182418800017408 == some .eq) = true := by decide +kernel
  rw [nf_one]
  go_enter Tryz.func210, Tryz.ntmps210
  go_wp2
  go_ret
  exact ⟨rfl, rfl⟩

def WeighRel (f : Int → Nat) (k : Nat) (off mn mx : Int) (g L cp : Nat) (w wr : World) (i : Value) : Prop :=
  ∃ x : Int, i = .int .i64 x ∧ mn ≤ x ∧ x ≤ mx + 1 ∧ Row wr g L cp (fun j => if off + j < x then f (off + j) * k else f (off + j)) ∧ Fr (fun b => b = g) w wr

set_option maxRecDepth 100000 in
set_option maxHeartbeats 400000 in
theorem reweighD_any (f : Int → Nat) (n k : Nat) (mn mx : Int) (p g L cp : Nat) (rest : List Value) (T : TypeId) (w : World) (h : DenseOk f (.float .f64 (nf n)) mn mx p g L cp rest T w) (hpg : p ≠ g) (hk1 : 2 ≤ k) (hk2 : k ≤ 100) (hn : n * k < 9007199254740992)
   (hf : ∀ i, f i ≤ n) (hz : ∀ i, i < mn ∨ mx < i → f i = 0) (hle : mn ≤ mx) (b1 : -10000 ≤ mn) (b2 : mx ≤ 10000) :
    Calls Tryz.prog 210 #[.pointer (some ⟨p, 0, none⟩), .float .f64 (nf k)] w fun e w' => e = .returned .nilIface ∧ DenseOk (fun i => f i * k) (.float .f64 (nf (n * k))) mn mx p g L cp rest T w' ∧ Fr (fun b => b = p ∨ b = g) w w' := by
  obtain ⟨off, hd, hr, o1, o2, o3, o4⟩ := h
  obtain ⟨h0, h1⟩ := weigh_tests hk1 hk2
  have hmc := fun w : World => run_float_arith (P := Tryz.prog) w .mul 30 .f64 _ _ _ (nf_mulz n k (by omega) (by omega) hn)
  have hmi := fun i => nf_mulz (f i) k (by omega) (by omega) (Nat.lt_of_le_of_lt (Nat.mul_le_mul_right k (hf i)) hn)
  obtain ⟨y, hy⟩ : ∃ y, y = nf k := ⟨_, rfl⟩
  rw [← hy] at h0 h1 hmc hmi ⊢
  obtain ⟨z, hz2⟩ : ∃ z, z = nf (n * k) := ⟨_, rfl⟩
  rw [← hz2] at hmc ⊢
  obtain ⟨-, d1, -, d3, -⟩ := hd.cells
  have f1 := hd.free 1
  have hd1 := hd.set1 (.float .f64 z)
  have hr1 : Row (w.setCell ⟨p, 1, none⟩ (.float .f64 z)) g L cp _ := hr.other hpg _
  obtain ⟨w1, hw1⟩ : ∃ w1, w1 = w.setCell ⟨p, 1, none⟩ (.float .f64 z) := ⟨_, rfl⟩
  rw [← hw1] at hd1 hr1
  have hF1 : Fr (fun b => b = p) w w1 := by rw [hw1]; exact (show Fr (fun b => b = p) w w from Fr.refl _ w).setCell (p := ⟨p, 1, none⟩) (fun _ => rfl) _
  have HD1 := Lib.hid hd1
  have HR1 := Lib.hid hr1
  have HF1 := Lib.hid hF1
  have HMI := Lib.hid hmi
  have HZ := Lib.hid hz
  clear hd hr hd1 hr1 hF1 hmi hz hf hy hz2
  go_enter Tryz.func210, Tryz.ntmps210
  go_wp2
  rw [← hw1]
  clear hw1 d1 d3 f1 hmc
  go_loopw [5] (fun i wr => WeighRel f k off mn mx g L cp w1 wr i) (fun i _ => (mx + 1 - intOf i).toNat)
  case atStart => exact ⟨mn, rfl, Int.le_refl _, by omega, HR1.out.ext (fun j _ => by
    by_cases c : off + (j : Int) < mn
    · rw [if_pos c, HZ.out _ (.inl c), Nat.zero_mul]
    · rw [if_neg c]), Fr.refl _ _⟩
  case round =>
    obtain ⟨x, rfl, hx1, hx2, hrow, hfr⟩ := hrel
    obtain ⟨e0, -, e2, e3, e4⟩ := (HD1.out.fr hfr hpg).cells
    by_cases hlt : x ≤ mx
    · obtain ⟨j, hj⟩ : ∃ j : Nat, x - off = (j : Int) := ⟨(x - off).toNat, by omega⟩
      have hjL : j < L := by omega
      have hjL' : (j : Int) < (L : Int) := by omega
      have hcell := hrow.cell j hjL
      have hfree := hrow.free j
      have hox : off + (j : Int) = x := by omega
      rw [hox, if_neg (by omega)] at hcell
      have hmul := fun w : World => run_float_arith (P := Tryz.prog) w .mul 30 .f64 _ _ _ (HMI.out x)
      have i1 : IntKind.i64.wrap (x - off) = (j : Int) := by rw [IntKind.wrap_i64]; omega
      have i2 : IntKind.i64.wrap (x + 1) = x + 1 := by rw [IntKind.wrap_i64]; omega
      have HO := Lib.hid hrow
      have HF := Lib.hid hfr
      have HX := Lib.hid hox
      obtain ⟨fx, hfx⟩ : ∃ fx, fx = nf (f x) := ⟨_, rfl⟩
      obtain ⟨fy, hfy⟩ : ∃ fy, fy = nf (f x * k) := ⟨_, rfl⟩
      rw [← hfx] at hcell hmul
      rw [← hfy] at hmul
      have HFY := Lib.hid hfy
      clear hrow hfr hox hfx hfy hj
      go_wp2
      go_still_tail 15, (by kernel_rfl)
      show wpList _ _ _ _ _ wr.drew
      go_wp2
      go_roundw
      case rel =>
        have hset := HO.out.drew.set j (f x * k) hjL
        rw [← HFY.out] at hset
        refine ⟨x + 1, by go_num, by omega, by omega, hset.ext (fun i hi => ?_), HF.out.drew.setCell (p := ⟨g, j, none⟩) (fun _ => rfl) _⟩
        have hox := HX.out
        by_cases hij : (i : Int) = (j : Int)
        · rw [if_pos hij, if_pos (by omega), show off + (i : Int) = x from by omega]
        · rw [if_neg hij]
          by_cases hi2 : off + (i : Int) < x
          · rw [if_pos hi2, if_pos (by omega)]
          · rw [if_neg hi2, if_neg (by omega)]
      case measure => simp [intOf]; omega
    · have HO := Lib.hid hrow
      have HF := Lib.hid hfr
      clear hrow hfr
      go_wp2
      go_ret
      refine ⟨rfl, ⟨off, HD1.out.fr HF.out hpg, HO.out.ext (fun i hi => ?_), o1, o2, o3, o4⟩, HF1.out.trans HF.out (fun _ _ h => .inl h) (fun _ _ h => .inr h)⟩
      by_cases hi2 : off + (i : Int) < x
      · rw [if_pos hi2]
      · rw [if_neg hi2]; show _ = f (off + (i : Int)) * k; rw [HZ.out _ (.inr (by omega)), Nat.zero_mul]
end Go.Proofs.YtnmbjalojgccmaaGreat
end
/-
  Reweight of a sparse store.
-/
section
namespace Go.Proofs.YtnmbjalojgccmaaGreat
open Go.RowKit Go.Maps

/-- A count written anew. -/
theorem MapIs.set {f : Int → Nat} {D : DataW Unit} (h : MapIs f D) (i : Int) (v : Nat) (hv : 0 < v) : MapIs (fun j => if j = i then v else f j) (D.put (.int .i64 i) (.lit (.int .u64 ((nf v : Nat) : Int)))) where
  isMap := h.isMap.put _ _
  has := fun j => by
    by_cases hj : j = i
    · subst hj
      rw [has_put_same h.isMap (show WideAt.IsKeyLit (.int .i64 j) from trivial), if_pos rfl, decide_eq_true hv]
    · rw [has_put_other (by intro e; cases e; exact hj rfl), if_neg hj, h.has]
  at_ := fun j hp z => by
    by_cases hj : j = i
    · subst hj
      rw [atKey_put_same h.isMap (show WideAt.IsKeyLit (.int .i64 j) from trivial), if_pos rfl]
    · rw [if_neg hj] at hp ⊢
      rw [atKey_put_other (by intro e; cases e; exact hj rfl), h.at_ j hp]

theorem owns_tight {H : Type} {P : Program} {t : TypeId} {R : Value → Option (DataW H × List MemPlace)} {b n : Nat} {D : DataW H} {w : World} (h : w.ownsMap P t R b n D) {m : Nat} (hm : Maps.size D ≤ m) : w.ownsMap P t R b m D := by
  obtain ⟨es, clock, h1, h2, h3, rfl⟩ := h
  refine ⟨es, clock, h1, h2, ?_, rfl⟩
  simpa [Maps.size, length_sorted] using hm

def WeighSRel (f : Int → Nat) (k : Nat) (zs : List Int) (p b n : Nat) (w wr : World) (i : Value) : Prop :=
  ∃ j : Nat, j ≤ zs.length ∧ i = .int .i64 (j : Int) ∧ Sparse (fun x => if x ∈ zs.take j then f x * k else f x) p b n wr ∧ Fr (fun x => x = b) w wr

set_option maxRecDepth 100000 in
set_option maxHeartbeats 400000 in
theorem reweighS_any (f : Int → Nat) (p b n k : Nat) (w : World) (h : Sparse f p b n w) (hn : n ≤ 1000000) (hk1 : 2 ≤ k) (hk2 : k ≤ 100) (hz : ∀ i, i < -10000 ∨ 10000 < i → f i = 0) (hs : tot2 f < 1000000000) :
    Calls Tryz.prog 255 #[.pointer (some ⟨p, 0, none⟩), .float .f64 (nf k)] w fun e w' => e = .returned .nilIface ∧ Sparse (fun i => f i * k) p b n w' ∧ Fr (fun x => x = b) w w' := by
  obtain ⟨hp, ⟨D, ho, hm⟩, hne⟩ := id h
  have d0 := cell_of_row _ _ 0 _ _ _ hp
  have HSO := sorted_any f D b n w ho hm (Nat.le_trans ho.size_le hn)
  obtain ⟨h0, h1⟩ := weigh_tests hk1 hk2
  have hfb : ∀ i, f i < 1000000000 := fun i => by
    by_cases c : -10000 ≤ i ∧ i ≤ 10000
    · have := one_le_tot f i c.1 c.2; omega
    · rw [hz i (by omega)]; decide
  have hmi := fun i => nf_mulz (f i) k (by omega) (by omega) (by
    have h3 := Nat.mul_le_mul (Nat.le_of_lt (hfb i)) hk2
    omega)
  obtain ⟨y, hy⟩ : ∃ y, y = nf k := ⟨_, rfl⟩
  rw [← hy] at h0 h1 hmi ⊢
  have hbl := ho.lt
  have HH := Lib.hid h
  have HMI := Lib.hid hmi
  have HZ := Lib.hid hz
  have HS := Lib.hid hs
  have HBL := Lib.hid hbl
  clear h hp ho hm hne hz hs hmi hbl hy hfb
  go_enter Tryz.func255, Tryz.ntmps255
  go_wp2_with fail
  refine HSO.mono ?_
  clear HSO
  rintro e w1 ⟨zs, ar, cr, rfl, hrow, hblk, hbel, hnd, hmem, hsort⟩
  obtain ⟨hlie, hgl⟩ := lieI_of hrow
  have hf1 := Fr.of_below hbel
  have hsp1 := HH.out.fr hf1 (Nat.not_le.2 (lt_of_block HH.out.ptr)) (Nat.not_le.2 HBL.out)
  have hlen : zs.length < 1000000000 := by
    have h1 := pos_len (binsOf_pos hmem)
    rw [binsOf_length, ← tot2_cnt (binsOf_inR hmem HZ.out), binsOf_cnt hnd hmem] at h1
    have := HS.out; omega
  have HR : Hid (∀ i ∈ zs, -10000 ≤ i ∧ i ≤ 10000) := fun i hi => by
    have := binsOf_inR hmem HZ.out (i, f i) (List.mem_map.2 ⟨i, hi, rfl⟩); exact this
  have HSP1 := Lib.hid hsp1
  have HF1 := Lib.hid hf1
  have HL := Lib.hid hlie
  have HND := Lib.hid hnd
  have HMEM := Lib.hid hmem
  have HBLK := Lib.hid hblk
  clear hrow hbel hnd hmem hsort hlie hf1 hsp1 d0 hblk hgl
  go_wp2
  go_loopw [18] (fun i wr => WeighSRel f k zs p b n w1 wr i) (fun i _ => zs.length - (intOf i).toNat)
  case atStart => exact ⟨0, by omega, rfl, by simpa using HSP1.out, Fr.refl _ _⟩
  case round =>
    obtain ⟨j, hj, rfl, hsp, hfr⟩ := hrel
    by_cases hlt : j < zs.length
    · rcases HL.out with e0 | ⟨g, rfl, hcell⟩
      · rw [e0] at hlt; exact absurd hlt (Nat.not_lt_zero _)
      have hgb : ¬ g = b := fun e => by
        have h1 := HBLK.out g rfl
        have h2 := HBL.out
        omega
      have c0 := hfr.cell (p := ⟨g, j, none⟩) (hcell j hlt) hgb
      have hxm : zs[j] ∈ zs := List.getElem_mem hlt
      have hxp := (HMEM.out zs[j]).1 hxm
      have hxr := HR.out zs[j] hxm
      have hxn : zs[j] ∉ zs.take j := fun h => by
        obtain ⟨i, hi, e⟩ := List.getElem_of_mem h
        rw [List.getElem_take] at e
        rw [List.length_take] at hi
        have := (List.getElem_inj HND.out).1 e
        omega
      obtain ⟨hp, ⟨D, ho, hm⟩, hne⟩ := hsp
      have d0 := cell_of_row _ _ 0 _ _ _ hp
      have hlook := look_run ho hm zs[j] (by omega) (by omega)
      rw [if_neg hxn] at hlook
      have hmul := fun w : World => run_float_arith (P := Tryz.prog) w .mul 30 .f64 _ _ _ (HMI.out zs[j])
      have hset := hm.set zs[j] (f zs[j] * k) (Nat.mul_pos hxp (by omega))
      have hfun : (fun y => if y = zs[j] then f zs[j] * k else (fun x => if x ∈ zs.take j then f x * k else f x) y) = fun y => if y ∈ zs.take (j + 1) then f y * k else f y := by
        funext y
        rw [List.take_succ_eq_append_getElem hlt]
        by_cases c : y = zs[j]
        · subst c; rw [if_pos rfl, if_pos (List.mem_append_right _ (List.mem_singleton.2 rfl))]
        · rw [if_neg c]
          show (if y ∈ zs.take j then f y * k else f y) = _
          by_cases c2 : y ∈ zs.take j
          · rw [if_pos c2, if_pos (List.mem_append_left _ c2)]
          · rw [if_neg c2, if_neg (fun h => (List.mem_append.1 h).elim c2 (fun h => c (List.mem_singleton.1 h)))]
      rw [hfun] at hset
      have hsize : Maps.size (D.put (.int .i64 zs[j]) (.lit (.int .u64 ((nf (f zs[j] * k) : Nat) : Int)))) ≤ n := by
        rw [size_put (ho.tidy Tryz.keyed) _, if_pos (by
          rw [hm.has]
          rw [if_neg hxn]; exact decide_eq_true hxp)]
        exact ho.size_le
      have hkey := key_int (i := zs[j]) (by omega) (by omega)
      obtain ⟨z, hzz⟩ : ∃ z, z = nf (f zs[j] * k) := ⟨_, rfl⟩
      obtain ⟨u, hu⟩ : ∃ u, u = nf (f zs[j]) := ⟨_, rfl⟩
      rw [← hzz] at hset hmul hsize
      rw [← hu] at hlook hmul
      obtain ⟨x, hx⟩ : ∃ x, x = zs[j] := ⟨_, rfl⟩
      rw [← hx] at c0 hlook hset hsize hkey
      have HSET := Lib.hid hset
      have HSZ := Lib.hid hsize
      have HP := Lib.hid hp
      have HNE := Lib.hid hne
      have HFR := Lib.hid hfr
      clear hzz hu hx hset hsize hp hne hfr hfun hm hcell hxm hxp hxr hxn hgb
      go_wp2_with (at_mapUpdate; refine wpList_mapUpdate_own _ rfl _ _ _ 172 rfl 3 30 Tryz.keyed Tryz.underlying172 cntR b n D rfl ho (by unfold maxLen; omega) _ _ _ rfl rfl hkey (.lit (.int .u64 (z : Int))) [] rfl ?_; intro w3 hown3 hgrow3; have HO3 := Lib.hid hown3; have HG3 := Lib.hid hgrow3; clear hown3 hgrow3 ho)
      go_roundw
      case rel =>
        refine ⟨j + 1, by omega, by go_num, ⟨?_, ⟨_, owns_tight HO3.out HSZ.out, HSET.out⟩, HNE.out⟩, HFR.out.grown HG3.out (fun q hq _ => by cases hq; rfl)⟩
        exact (HG3.out.block p (lt_of_block HP.out) (by intro e; cases e; exact HNE.out rfl)).trans HP.out
      case measure => simp [intOf]; omega
    · obtain rfl : j = zs.length := by omega
      have HS2 := Lib.hid hsp
      have HF2 := Lib.hid hfr
      clear hlt hsp hfr
      go_wp2
      go_ret
      refine ⟨rfl, ?_, ?_⟩
      · have h := HS2.out
        rw [List.take_length] at h
        have e : (fun x => if x ∈ zs then f x * k else f x) = fun i => f i * k := by
          funext x
          by_cases c : x ∈ zs
          · rw [if_pos c]
          · rw [if_neg c, show f x = 0 from Nat.eq_zero_of_not_pos (fun h => c ((HMEM.out x).2 h)), Nat.zero_mul]
        rw [e] at h; exact h
      · exact HF1.out.trans HF2.out (fun i hi h => absurd hi (Nat.not_lt.2 h)) (fun _ _ h => h)
end Go.Proofs.YtnmbjalojgccmaaGreat
end
