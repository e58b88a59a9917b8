/-
  What the store with pages tells.
-/
import Derived.Test.YtnmbjalojgccmaaGreatTB
import Derived.Test.YtnmbjalojgccmaaGreatQYH
import Derived.Test.YtnmbjalojgccmaaGreatTC
import Derived.Test.YtnmbjalojgccmaaGreatQYF
import Derived.Test.YtnmbjalojgccmaaGreatTD
section
namespace Go.Proofs.YtnmbjalojgccmaaGreat
open Go.RowKit

theorem both_nil (G : Int → Nat) : both G [] = G := by
  funext i
  show G i + cntI [] i = G i
  rw [show cntI [] i = 0 from rfl]; rfl
theorem keeps_drewN {kind : Int} {K : StoreKind kind} {most : Int} {xs : Bins} {S : Nat → Prop} {p : Nat} {w : World} (h : K.St most xs S p w) (t : Nat) : Keeps K most xs S p w (w.drewN t) :=
  keeps_below h ⟨rfl, rfl, rfl, Nat.le_refl _, fun _ _ => rfl⟩

def toldP : ToldKind kindP where
  fTot := 310
  fEmp := 304
  fBin := 298
  fMin := 308
  fMax := 306
  mTot := fun _ _ => by kernel_rfl
  mEmp := fun _ _ => by kernel_rfl
  mBin := fun _ _ => by kernel_rfl
  mMin := fun _ _ => by kernel_rfl
  mMax := fun _ _ => by kernel_rfl
  eTot := enters_of Tryz.func310 (by kernel_rfl) rfl
  eEmp := enters_of Tryz.func304 (by kernel_rfl) rfl
  eBin := enters_of Tryz.func298 (by kernel_rfl) rfl
  eMin := enters_of Tryz.func308 (by kernel_rfl) rfl
  eMax := enters_of Tryz.func306 (by kernel_rfl) rfl
  cTot := fun most xs S p w h hf => by
    obtain ⟨tg, G, bs, q, mp, n, bufv, pgs, h1, h2, h3, h4, h5, h6⟩ := id h
    have htt := both_tot h2 hf.inR h3
    refine (totalP_any G bs q mp n p bufv pgs w h1 (both_zero h2 hf.inR) (by have := hf.tot; omega)).mono fun e w' ⟨a, hb⟩ => ⟨by rw [a, show bs.length + tot2 G = tot xs from by omega], by subst hb; exact keeps_below h (Below.refl _ _)⟩
  cEmp := fun most xs S p w h hf => by
    obtain ⟨tg, G, bs, q, mp, n, bufv, pgs, h1, h2, h3, h4, h5, h6⟩ := id h
    have htt := both_tot h2 hf.inR h3
    refine (isEmptyP_any G bs q mp n p bufv pgs w h1 (both_zero h2 hf.inR) (by have := hf.tot; omega)).mono ?_
    rintro e w' ⟨⟨B, rfl, hB⟩, rfl⟩
    rw [h2] at hB
    exact ⟨by rw [bool_empty (hB.trans (empty_iff hf.pos))], keeps_below h (Below.refl _ _)⟩
  cBin := fun most xs S p w h hf => by
    obtain ⟨tg, G, bs, q, mp, n, bufv, pgs, h1, h2, h3, h4, h5, h6⟩ := id h
    have htt := both_tot h2 hf.inR h3
    refine (binsP_any G bs q mp n p bufv pgs (keptB 2 most xs) w h1 h3 (both_zero h2 hf.inR) (by have := hf.tot; omega) (kept_asc 2 most xs) (kept_pos 2 most hf.pos) (kept_inR hf.known hf.inR) (by rw [cnt_kept0 (by decide) (by decide), h2])).mono ?_
    rintro e w' ⟨bs', ao, c, rfl, hpm, hP, hfr, hown, hblk⟩
    rw [fb_length] at hown hblk ⊢
    refine ⟨⟨ao, c, rfl, hown, hblk⟩, ⟨tg, G, bs', q, mp, n, bufv, pgs, hP, ?_, fun b hb => h3 b (hpm.mem_iff.1 hb), by rw [hpm.length_eq]; exact h4, h5, h6⟩, hfr.mono (fun k _ hk => (h6 k).2 (.inr (.inl hk)))⟩
    rw [← h2]
    show (fun i => G i + cntI bs' i) = fun i => G i + cntI bs i
    rw [cntI_perm hpm]
  cMin := fun most xs S p w h hf hn => by
    obtain ⟨tg, G, bs, q, mp, n, bufv, pgs, h1, h2, h3, h4, h5, h6⟩ := id h
    have htt := both_tot h2 hf.inR h3
    have hc := cnt_first (kept_asc 2 most xs) (kept_pos 2 most hf.pos) (kept_ne hf.pos hn)
    rw [cnt_kept0 (by decide) (by decide) xs, ← h2] at hc
    by_cases hb : bs = []
    · subst hb
      rw [both_nil] at hc
      refine (minPE_any G q mp n p bufv pgs _ w h1 (both_zero h2 hf.inR) (by have := hf.tot; omega) hc.1 hc.2).mono ?_
      rintro e w' ⟨rfl, t, rfl⟩
      exact ⟨rfl, keeps_drewN h t⟩
    · refine (minPN_any G bs q mp n p bufv pgs _ w h1 (List.length_pos_iff.2 hb) (both_zero h2 hf.inR) (by have := hf.tot; omega) hc.1 hc.2 h3 (by have := hf.tot; omega)).mono ?_
      rintro e w' ⟨rfl, t, rfl⟩
      exact ⟨rfl, keeps_drewN h t⟩
  cMax := fun most xs S p w h hf hn => by
    obtain ⟨tg, G, bs, q, mp, n, bufv, pgs, h1, h2, h3, h4, h5, h6⟩ := id h
    have htt := both_tot h2 hf.inR h3
    have hc := cnt_last (kept_asc 2 most xs) (kept_pos 2 most hf.pos) (kept_ne hf.pos hn)
    rw [cnt_kept0 (by decide) (by decide) xs, ← h2] at hc
    by_cases hb : bs = []
    · subst hb
      rw [both_nil] at hc
      refine (maxPE_any G q mp n p bufv pgs _ w h1 (both_zero h2 hf.inR) (by have := hf.tot; omega) hc.1 hc.2).mono ?_
      rintro e w' ⟨rfl, t, rfl⟩
      exact ⟨rfl, keeps_drewN h t⟩
    · refine (maxPN_any G bs q mp n p bufv pgs _ w h1 (List.length_pos_iff.2 hb) (both_zero h2 hf.inR) (by have := hf.tot; omega) hc.1 hc.2 h3 (by have := hf.tot; omega)).mono ?_
      rintro e w' ⟨rfl, t, rfl⟩
      exact ⟨rfl, keeps_drewN h t⟩
  cMinE := fun most S p w h hf => by
    obtain ⟨tg, G, bs, q, mp, n, bufv, pgs, h1, h2, h3, h4, h5, h6⟩ := id h
    obtain rfl := h5 rfl
    obtain rfl : bs = [] := List.eq_nil_of_length_eq_zero (Nat.le_zero.1 h4)
    refine (minP0_any G q mp p bufv pgs w h1).mono ?_
    rintro e w' ⟨a, t, rfl⟩
    exact ⟨a, keeps_drewN h t⟩
  cMaxE := fun most S p w h hf => by
    obtain ⟨tg, G, bs, q, mp, n, bufv, pgs, h1, h2, h3, h4, h5, h6⟩ := id h
    obtain rfl := h5 rfl
    obtain rfl : bs = [] := List.eq_nil_of_length_eq_zero (Nat.le_zero.1 h4)
    refine (maxP0_any G q mp p bufv pgs w h1).mono ?_
    rintro e w' ⟨a, t, rfl⟩
    exact ⟨a, keeps_drewN h t⟩
end Go.Proofs.YtnmbjalojgccmaaGreat
end
