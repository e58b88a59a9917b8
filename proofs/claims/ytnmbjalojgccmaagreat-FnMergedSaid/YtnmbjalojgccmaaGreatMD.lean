/-
  ForEach: what is handed to it, and what a store of a kind is to do with it.
-/
import Derived.Test.YtnmbjalojgccmaaGreatTA
import Derived.Test.YtnmbjalojgccmaaGreatTB
import Derived.StillTailTactics
section
namespace Go.Proofs.YtnmbjalojgccmaaGreat
open Go.RowKit

/-- A function that is called for each bin: J tells what stands behind the bins told so far; T are the blocks that it may write. -/
structure Callback (F : FuncId) (bx : Nat) (ks : Bins) (J : Bins → (Nat → Prop) → World → Prop) : Prop where
  enter : ∀ args w, (callFunc F args).run Tryz.prog w = .ok (.enter F args) w
  call : ∀ done x c T w, J done T w → (done ++ [(x, c)]) <+: ks → Calls Tryz.prog F #[.int .i64 x, .float .f64 (nf c), .pointer (some ⟨bx, 0, none⟩)] w fun e w' => e = .returned (.bool false) ∧ ∃ T', J (done ++ [(x, c)]) T' w' ∧ Fr T w w' ∧ ∀ b, T' b → T b ∨ w.heap.size ≤ b
  fr : ∀ done T w w' U, J done T w → Fr U w w' → (∀ b, T b → ¬ U b) → J done T w'
  lt : ∀ done T w, J done T w → ∀ b, T b → b < w.heap.size

/-- All bins are told. -/
def Eached {kind : Int} (K : StoreKind kind) (most : Int) (ys : Bins) (S : Nat → Prop) (p : Nat) (J : Bins → (Nat → Prop) → World → Prop) (T : Nat → Prop) (w : World) (e : Ending) (w' : World) : Prop :=
  e = .returned (.tuple #[]) ∧ K.St most ys S p w' ∧ ∃ T', J (keptB kind most ys) T' w' ∧ Fr (fun b => S b ∨ T b) w w' ∧ (∀ b, T' b → T b ∨ w.heap.size ≤ b)

structure EachKind {kind : Int} (K : StoreKind kind) where
  fE : FuncId
  mE : ∀ p w, (method 405 K.T (.pointer (some ⟨p, 0, none⟩)) "ForEach").run Tryz.prog w = .ok (fE, .pointer (some ⟨p, 0, none⟩)) w
  eE : ∀ args w, (callFunc fE args).run Tryz.prog w = .ok (.enter fE args) w
  cE : ∀ most ys S p F bx J T w, K.St most ys S p w → Few kind most ys → Callback F bx (keptB kind most ys) J → J [] T w → (∀ b, T b → ¬ S b) →
    Calls Tryz.prog fE #[.pointer (some ⟨p, 0, none⟩), .func (.func F) #[] #[.pointer (some ⟨bx, 0, none⟩)]] w fun e w' => Eached K most ys S p J T w e w'
end Go.Proofs.YtnmbjalojgccmaaGreat
end
/-
  ForEach of a dense store.
-/
section
namespace Go.Proofs.YtnmbjalojgccmaaGreat
open Go.RowKit

theorem nz_prefix (f : Int → Nat) (a : Int) (k : Nat) : ∀ m, k ≤ m → nz f a k <+: nz f a m
  | 0, h => by rw [Nat.le_zero.1 h]; exact List.prefix_rfl
  | m + 1, h => by
    by_cases c : k = m + 1
    · rw [c]; exact List.prefix_rfl
    · exact (nz_prefix f a k m (by omega)).trans (by rw [nz]; exact List.prefix_append _ _)

def EachDRel (f : Int → Nat) (mn mx : Int) (J : Bins → (Nat → Prop) → World → Prop) (T : Nat → Prop) (w wr : World) (i : Value) : Prop :=
  ∃ (k : Nat) (T' : Nat → Prop), (k : Int) ≤ mx - mn + 1 ∧ i = .int .i64 (mn + k) ∧ J (nz f mn k) T' wr ∧ Fr T w wr ∧ (∀ b, T' b → T b ∨ w.heap.size ≤ b)

set_option maxRecDepth 100000 in
set_option maxHeartbeats 400000 in
theorem eachD_any (f : Int → Nat) (c : Value) (mn mx : Int) (p g L cp : Nat) (rest : List Value) (TT : TypeId) (w : World) (h : DenseOk f c mn mx p g L cp rest TT w)
   (hs : tot2 f < 9007199254740992) (h1 : mn ≤ mx) (hlo : -10000 ≤ mn) (hhi : mx ≤ 10000) {F : FuncId} {bx : Nat} {J : Bins → (Nat → Prop) → World → Prop} {T : Nat → Prop}
   (hC : Callback F bx (nz f mn (mx - mn + 1).toNat) J) (hJ : J [] T w) (hTp : ¬ T p) (hTg : ¬ T g) :
    Calls Tryz.prog 204 #[.pointer (some ⟨p, 0, none⟩), .func (.func F) #[] #[.pointer (some ⟨bx, 0, none⟩)]] w fun e w' => e = .returned (.tuple #[]) ∧ ∃ T', J (nz f mn (mx - mn + 1).toNat) T' w' ∧ Fr T w w' ∧ (∀ b, T' b → T b ∨ w.heap.size ≤ b) := by
  obtain ⟨off, hd, hr, o1, o2, o3, o4⟩ := h
  have hlp := hd.lt
  have hlg := hr.lt
  have HD := Lib.hid hd
  have HR := Lib.hid hr
  have HS := Lib.hid hs
  have HC := Lib.hid hC
  have HJ := Lib.hid hJ
  have HTP := Lib.hid hTp
  have HTG := Lib.hid hTg
  have HLP := Lib.hid hlp
  have HLG := Lib.hid hlg
  have hE := hC.enter
  obtain ⟨-, -, -, d3, -⟩ := hd.cells
  clear hd hr hs hC hJ hTp hTg hlp hlg
  go_enter Tryz.func204, Tryz.ntmps204
  go_wp2
  clear d3
  go_loopw [4] (fun i wr => EachDRel f mn mx J T w wr i) (fun i _ => (mx + 1 - intOf i).toNat)
  case atStart => exact ⟨0, T, by omega, by go_num, HJ.out, Fr.refl _ _, fun b hb => .inl hb⟩
  case round =>
    obtain ⟨k, T1, hk, rfl, hj1, hfr, hT1⟩ := hrel
    have hdw := HD.out.fr hfr HTP.out
    have hrw := HR.out.fr hfr HTG.out
    obtain ⟨d0, -, d2, d3, d4⟩ := hdw.cells
    by_cases hlt : mn + (k : Int) ≤ mx
    · obtain ⟨j, hj⟩ : ∃ j : Nat, mn + (k : Int) - off = (j : Int) := ⟨(mn + (k : Int) - off).toNat, by omega⟩
      have hjL : j < L := by omega
      have hjL' : (j : Int) < (L : Int) := by omega
      have i6 : IntKind.i64.wrap (mn + (k : Int) - off) = (j : Int) := by rw [IntKind.wrap_i64]; omega
      have i7 : IntKind.i64.wrap (mn + (k : Int) + 1) = mn + (k : Int) + 1 := by rw [IntKind.wrap_i64]; omega
      have hcell := hrw.cell j hjL
      rw [show off + (j : Int) = mn + (k : Int) from by omega] at hcell
      have hb := one_le_tot f (mn + (k : Int)) (by omega) (by omega)
      have hord := nf_order (f (mn + (k : Int))) 0 (by have := HS.out; omega) (by decide)
      rw [nf_zero] at hord
      have HJ1 := Lib.hid hj1
      have HFR := Lib.hid hfr
      have HT1 := Lib.hid hT1
      have HDW := Lib.hid hdw
      have HRW := Lib.hid hrw
      have HJJ := Lib.hid hj
      clear hj1 hfr hT1 hdw hrw hj hb
      by_cases hpos : 0 < f (mn + (k : Int))
      · have hgt : (FloatKind.f64.format.order (nf (f (mn + (k : Int)))) 0 == some .gt) = true := by rw [hord, Nat.compare_eq_gt.2 hpos]; rfl
        have hnz : nz f mn (k + 1) = nz f mn k ++ [(mn + (k : Int), f (mn + (k : Int)))] := by rw [nz, if_pos hpos]
        have hpre : (nz f mn k ++ [(mn + (k : Int), f (mn + (k : Int)))]) <+: nz f mn (mx - mn + 1).toNat := by
          rw [← hnz]; exact nz_prefix f mn (k + 1) _ (by omega)
        have hcall := fun w5 h => HC.out.call (nz f mn k) (mn + (k : Int)) (f (mn + (k : Int))) T1 w5 h hpre
        rw [← hnz] at hcall
        obtain ⟨y, hy⟩ : ∃ y, y = nf (f (mn + (k : Int))) := ⟨_, rfl⟩
        rw [← hy] at hcell hgt hcall
        have HCA := Lib.hid hcall
        clear hord hpos hnz hy hpre hcall
        go_wp2
        go_quiet (fail)
        go_wp2
        obtain ⟨w0, hw0⟩ : ∃ w0, w0 = wr.drewN nq := ⟨_, rfl⟩
        have hd0 : DS w0 p rest TT (.slice (some ⟨g, 0, none⟩) L cp) c (.int .i64 off) (.int .i64 mn) (.int .i64 mx) := by rw [hw0]; exact HDW.out.drewN nq
        have hcell0 : w0.cell? ⟨g, j, none⟩ = some (.float .f64 y) := by rw [hw0]; exact hcell
        have hfrd : Fr (fun _ => False) wr w0.drew := by rw [hw0]; exact ((Fr.refl _ wr).drewN nq).drew
        have hjd := HC.out.fr _ _ _ _ _ HJ1.out hfrd (fun _ _ h => h)
        have HCC := HCA.out w0.drew hjd
        have HFD := Lib.hid hfrd
        rw [← hw0]
        clear hw0 d0 d2 d3 d4 hcell hfrd hjd
        obtain ⟨d0, -, d2, d3, d4⟩ := hd0.cells
        clear hd0
        go_still_tail 14, (by kernel_rfl)
        show wpList _ _ _ _ _ w0.drew
        go_wp2_with (go_at_fn F; (with_reducible refine HCC.mono ?_); rintro e w2 ⟨rfl, T2, hj2, hf2, hT2⟩; have HJ2 := Lib.hid hj2; have HF2 := Lib.hid hf2; have HT2 := Lib.hid hT2; clear hj2 hf2 hT2 HCC d0 d2 d3 d4 hcell0)
        go_roundw
        case rel =>
          have hs0 := HFR.out.size
          have hs1 := HFD.out.size
          have hff : Fr T w w2 := (HFR.out.trans HFD.out (fun _ _ h => h) (fun _ _ h => h.elim)).trans HF2.out (fun _ _ h => h) (fun i hi h => (HT1.out i h).elim id (fun h2 => by omega))
          refine ⟨k + 1, T2, by omega, by go_num, HJ2.out, hff, fun b hb => ?_⟩
          rcases HT2.out b hb with h | h
          · exact HT1.out b h
          · right; omega
        case measure => simp [intOf]; omega
      · have hgt : (FloatKind.f64.format.order (nf (f (mn + (k : Int)))) 0 == some .gt) = false := by rw [hord, show f (mn + (k : Int)) = 0 from by omega]; rfl
        have hnz : nz f mn (k + 1) = nz f mn k := by rw [nz, if_neg hpos, List.append_nil]
        have HNZ := Lib.hid hnz
        obtain ⟨y, hy⟩ : ∃ y, y = nf (f (mn + (k : Int))) := ⟨_, rfl⟩
        rw [← hy] at hcell hgt
        clear hord hpos hnz hy
        go_wp2
        go_quiet (fail)
        go_wp2
        go_roundw
        case rel =>
          refine ⟨k + 1, T1, by omega, by go_num, ?_, HFR.out.drewN nq, HT1.out⟩
          rw [HNZ.out]
          exact HC.out.fr _ _ _ _ (fun _ => False) HJ1.out ((Fr.refl _ wr).drewN nq) (fun _ _ h => h)
        case measure => simp [intOf]; omega
    · have HJ1 := Lib.hid hj1
      have HFR := Lib.hid hfr
      have HT1 := Lib.hid hT1
      clear hj1 hfr hT1 hdw hrw
      go_wp2
      go_end0
      rw [show (mx - mn + 1).toNat = k from by omega]
      exact ⟨rfl, T1, HJ1.out, HFR.out, HT1.out⟩

set_option maxRecDepth 100000 in
theorem eachDE_any (p : Nat) (rest : List Value) (TT : TypeId) (w : World) (h : DEmpty p rest TT w) (f : Value) :
    Calls Tryz.prog 204 #[.pointer (some ⟨p, 0, none⟩), f] w fun e w' => e = .returned (.tuple #[]) ∧ w' = w := by
  obtain ⟨-, -, -, d3, d4⟩ := DS.cells h
  clear h
  go_enter Tryz.func204, Tryz.ntmps204
  go_wp2
  clear d3
  go_loopw [4] (fun i wr => i = .int .i64 2147483647 ∧ wr = w) (fun _ _ => 0)
  case atStart => exact ⟨rfl, rfl⟩
  case round =>
    obtain ⟨rfl, rfl⟩ := hrel
    go_wp2
    go_end0
    exact ⟨rfl, rfl⟩
end Go.Proofs.YtnmbjalojgccmaaGreat
end
/-
  ForEach of a sparse store.
-/
section
namespace Go.Proofs.YtnmbjalojgccmaaGreat
open Go.RowKit Go.Maps

theorem fr_none_of_below0 {w w' : World} (h : Below w.heap.size w w') : Fr (fun _ => False) w w' := (Fr.of_below h).mono (fun _ hi h2 => absurd hi (Nat.not_lt.2 h2))

def EachSRel (K : Bins) (J : Bins → (Nat → Prop) → World → Prop) (T : Nat → Prop) (w wr : World) (i : Value) : Prop :=
  ∃ (k : Nat) (T' : Nat → Prop), k ≤ K.length ∧ i = .int .i64 (k : Int) ∧ J (K.take k) T' wr ∧ Fr T w wr ∧ (∀ b, T' b → T b ∨ w.heap.size ≤ b)

set_option maxRecDepth 100000 in
set_option maxHeartbeats 400000 in
theorem eachS_any (f : Int → Nat) (p b n : Nat) (K : Bins) (w : World) (h : Sparse f p b n w) (hn : n ≤ 1000000) (hz : ∀ i, i < -10000 ∨ 10000 < i → f i = 0) (hs : tot2 f < 1000000000) (hK1 : Asc K) (hK2 : Pos K) (hK3 : cntB K = f)
   {F : FuncId} {bx : Nat} {J : Bins → (Nat → Prop) → World → Prop} {T : Nat → Prop} (hC : Callback F bx K J) (hJ : J [] T w) (hTp : ¬ T p) (hTb : ¬ T b) :
    Calls Tryz.prog 249 #[.pointer (some ⟨p, 0, none⟩), .func (.func F) #[] #[.pointer (some ⟨bx, 0, none⟩)]] w fun e w' => e = .returned (.tuple #[]) ∧ ∃ T', J K T' w' ∧ Fr T w w' ∧ (∀ b, T' b → T b ∨ w.heap.size ≤ b) := by
  obtain ⟨hp, ⟨D, ho, hm⟩, hne⟩ := id h
  have d0 := cell_of_row _ _ 0 _ _ _ hp
  have HSO := sorted_any f D b n w ho hm (Nat.le_trans ho.size_le hn)
  have hlt0 := hC.lt [] T w hJ
  have HH := Lib.hid h
  have HZ := Lib.hid hz
  have HS := Lib.hid hs
  have HC := Lib.hid hC
  have HJ := Lib.hid hJ
  have HTP := Lib.hid hTp
  have HTB := Lib.hid hTb
  have HBL := Lib.hid ho.lt
  have HK : Hid (Asc K ∧ Pos K ∧ cntB K = f) := ⟨hK1, hK2, hK3⟩
  have HLT0 := Lib.hid hlt0
  have hE := hC.enter
  clear h hp ho hm hne hz hs hC hJ hTp hTb hK1 hK2 hK3 hlt0
  go_enter Tryz.func249, Tryz.ntmps249
  go_wp2_with fail
  refine HSO.mono ?_
  clear HSO
  rintro e w1 ⟨zs, ar, cr, rfl, hrow, hblk, hbel, hnd, hmem, hsort⟩
  have hKe : binsOf f zs = K := bins_unique (binsOf_asc hnd hsort) (binsOf_pos hmem) (binsOf_inR hmem HZ.out) HK.out.1 HK.out.2.1 (by rw [binsOf_cnt hnd hmem, HK.out.2.2])
  obtain ⟨hlie, hgl⟩ := lieI_of hrow
  have hf1 := fr_none_of_below0 hbel
  have hsp1 := HH.out.fr hf1 (fun h => h) (fun h => h)
  have hj1 := HC.out.fr [] T w w1 _ HJ.out hf1 (fun _ _ h => h)
  have hlen : zs.length < 1000000000 := by
    have h1 := pos_len (binsOf_pos hmem)
    rw [binsOf_length, ← tot2_cnt (binsOf_inR hmem HZ.out), binsOf_cnt hnd hmem] at h1
    have := HS.out; omega
  have hkl : K.length = zs.length := by rw [← hKe, binsOf_length]
  have hget : ∀ k, (h : k < zs.length) → (h2 : k < K.length) → K[k] = (zs[k], f zs[k]) := fun k h h2 => by
    have e := binsOf_get f zs k h
    subst hKe; exact e
  have HR : Hid (∀ i ∈ zs, -10000 ≤ i ∧ i ≤ 10000) := fun i hi => by
    have := binsOf_inR hmem HZ.out (i, f i) (List.mem_map.2 ⟨i, hi, rfl⟩); exact this
  have HSP1 := Lib.hid hsp1
  have HF1 := Lib.hid hf1
  have HJ1 := Lib.hid hj1
  have HL := Lib.hid hlie
  have HGET := Lib.hid hget
  have HBLK := Lib.hid hblk
  have HKL := Lib.hid hkl
  have hw1 := hbel.size
  clear hrow hbel hnd hmem hsort hlie hf1 hsp1 hj1 d0 hblk hgl hKe hget hkl
  go_wp2
  go_loopw [13] (fun i wr => EachSRel K J T w1 wr i) (fun i _ => zs.length - (intOf i).toNat)
  case atStart => exact ⟨0, T, Nat.zero_le _, rfl, by rw [List.take_zero]; exact HJ1.out, Fr.refl _ _, fun b hb => .inl hb⟩
  case round =>
    obtain ⟨j, T1, hj, rfl, hj1, hfr, hT1⟩ := hrel
    have hkl := HKL.out
    by_cases hlt : j < zs.length
    · rcases HL.out with e0 | ⟨g, rfl, hcell⟩
      · rw [e0] at hlt; exact absurd hlt (Nat.not_lt_zero _)
      have hgT : ¬ T g := fun h => by
        have h1 := HBLK.out g rfl
        have h2 := HLT0.out g h
        omega
      have c0 := hfr.cell (p := ⟨g, j, none⟩) (hcell j hlt) hgT
      have hxr := HR.out zs[j] (List.getElem_mem hlt)
      obtain ⟨hp, ⟨D, ho, hm⟩, hne⟩ := HSP1.out.fr hfr HTP.out HTB.out
      have d0 := cell_of_row _ _ 0 _ _ _ hp
      have hlook := look_run ho hm zs[j] (by omega) (by omega)
      have htk : K.take (j + 1) = K.take j ++ [(zs[j], f zs[j])] := by rw [List.take_succ_eq_append_getElem (by omega), HGET.out j hlt (by omega)]
      have hpre : (K.take j ++ [(zs[j], f zs[j])]) <+: K := by rw [← htk]; exact List.take_prefix _ _
      have hcall := fun w5 h => HC.out.call (K.take j) zs[j] (f zs[j]) T1 w5 h hpre
      rw [← htk] at hcall
      have HCC := hcall wr hj1
      obtain ⟨u, hu⟩ : ∃ u, u = nf (f zs[j]) := ⟨_, rfl⟩
      obtain ⟨x, hx⟩ : ∃ x, x = zs[j] := ⟨_, rfl⟩
      rw [← hu] at hlook HCC
      rw [← hx] at c0 hlook HCC
      have HFR := Lib.hid hfr
      have HT1 := Lib.hid hT1
      clear hu hx hcall hpre htk hp ho hm hne hj1 hfr hT1 hcell hgT hxr hkl
      go_wp2_with (go_at_fn F; (with_reducible refine HCC.mono ?_); rintro e w2 ⟨rfl, T2, hj2, hf2, hT2⟩; have HJ2 := Lib.hid hj2; have HF2 := Lib.hid hf2; have HT2 := Lib.hid hT2; clear hj2 hf2 hT2 HCC d0 hlook c0)
      go_roundw
      case rel =>
        have hs0 := HFR.out.size
        have hff : Fr T w1 w2 := HFR.out.trans HF2.out (fun _ _ h => h) (fun i hi h => (HT1.out i h).elim id (fun h2 => by omega))
        refine ⟨j + 1, T2, by have := HKL.out; omega, by go_num, HJ2.out, hff, fun b hb => ?_⟩
        rcases HT2.out b hb with h | h
        · exact HT1.out b h
        · right; omega
      case measure => simp [intOf]; omega
    · obtain rfl : j = K.length := by omega
      rw [List.take_length] at hj1
      have HJ2 := Lib.hid hj1
      have HFR := Lib.hid hfr
      have HT1 := Lib.hid hT1
      have hlt2 : ¬ (K.length : Int) < (zs.length : Int) := by omega
      clear hj1 hfr hT1 hlt hkl hj
      go_wp2
      go_end0
      refine ⟨rfl, T1, HJ2.out, HF1.out.trans HFR.out (fun _ _ h => h.elim) (fun _ _ h => h), fun b hb => ?_⟩
      rcases HT1.out b hb with h | h
      · exact .inl h
      · right; omega
end Go.Proofs.YtnmbjalojgccmaaGreat
end
