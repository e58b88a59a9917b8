/-
  What the dense stores tell.
-/
import Derived.Test.YtnmbjalojgccmaaGreatTA
import Derived.Test.YtnmbjalojgccmaaGreatQU
import Derived.Test.YtnmbjalojgccmaaGreatRA
section
namespace Go.Proofs.YtnmbjalojgccmaaGreat
open Go.RowKit

set_option maxRecDepth 100000 in
theorem binsDE_any (p : Nat) (rest : List Value) (T : TypeId) (w : World) (h : DEmpty p rest T w) :
    Calls Tryz.prog 199 #[.pointer (some ⟨p, 0, none⟩)] w fun e w' => GivesP 145 [] w e w' := by
  obtain ⟨d0, -, d2, d3, d4⟩ := DS.cells h
  clear h
  go_enter Tryz.func199, Tryz.ntmps199
  go_wp2
  clear d0 d2 d3
  go_loopw [3, 4] (fun v i wr => v = .slice none 0 0 ∧ i = .int .i64 2147483647 ∧ wr = w) (fun _ _ _ => 0)
  case atStart => exact ⟨rfl, rfl, rfl⟩
  case round =>
    obtain ⟨rfl, rfl, rfl⟩ := hrel
    go_wp2
    go_ret
    exact ⟨none, 0, rfl, Own2.nil _ _⟩

/-- What a dense store with some counts is. -/
def DTell (f : Int → Nat) (n p : Nat) (w : World) : Prop :=
  (n = 0 ∧ (∀ i, f i = 0) ∧ ∃ rest T, DEmpty p rest T w) ∨
  ∃ mn mx g L cp rest T, DenseOk f (.float .f64 (nf n)) mn mx p g L cp rest T w ∧ (∀ i, i < mn ∨ mx < i → f i = 0) ∧ mn ≤ mx ∧ 0 < n ∧ n < 9007199254740992 ∧ -10000 ≤ mn ∧ mx ≤ 10000 ∧ 0 < f mn ∧ 0 < f mx ∧ tot2 f = n

theorem DTell.tot {f : Int → Nat} {n p : Nat} {w : World} (h : DTell f n p w) : Calls Tryz.prog 211 #[.pointer (some ⟨p, 0, none⟩)] w fun e w' => e = .returned (.float .f64 (nf n)) ∧ w' = w := by
  rcases h with ⟨rfl, _, rest, T, h⟩ | ⟨mn, mx, g, L, cp, rest, T, ⟨off, h, _⟩, _⟩
  · rw [nf_zero]; exact totalD_any p _ w (DS.cells h).2.1
  · exact totalD_any p _ w (DS.cells h).2.1
theorem DTell.emp {f : Int → Nat} {n p : Nat} {w : World} (h : DTell f n p w) : Calls Tryz.prog 205 #[.pointer (some ⟨p, 0, none⟩)] w fun e w' => e = .returned (.bool (n == 0)) ∧ w = w' := by
  rcases h with ⟨rfl, _, rest, T, h⟩ | ⟨mn, mx, g, L, cp, rest, T, ⟨off, h, _⟩, _, _, _, hn, _⟩
  · exact isEmptyD_any p 0 (by decide) w (by rw [nf_zero]; exact (DS.cells h).2.1)
  · exact isEmptyD_any p n hn w (DS.cells h).2.1
theorem DTell.bins {f : Int → Nat} {n p : Nat} {w : World} {K : Bins} (h : DTell f n p w) (ha : Asc K) (hp : Pos K) (hf : cntB K = f) : Calls Tryz.prog 199 #[.pointer (some ⟨p, 0, none⟩)] w fun e w' => GivesP 145 (fb K) w e w' := by
  rcases h with ⟨rfl, hz, rest, T, h⟩ | ⟨mn, mx, g, L, cp, rest, T, h, hz, h1, h2, h3, h4, h5, h6, h7, h8⟩
  · have : K = [] := by
      rw [← nz_all ha hp 0 (-1) (fun i _ => by rw [hf]; exact hz i) (fun i _ => by rw [hf]; exact hz i)]; rfl
    subst this
    exact binsDE_any p rest T w h
  · have hb := binsD_any f (.float .f64 (nf n)) mn mx p g L cp rest T w h (by omega) h1 h4 h5
    rw [← hf, nz_all ha hp mn mx (fun i hi => by rw [hf]; exact hz i (.inl hi)) (fun i hi => by rw [hf]; exact hz i (.inr hi))] at hb
    exact hb
theorem DTell.min {f : Int → Nat} {n p : Nat} {w : World} {K : Bins} (h : DTell f n p w) (ha : Asc K) (hp : Pos K) (hf : cntB K = f) (hn : 0 < n) : Calls Tryz.prog 209 #[.pointer (some ⟨p, 0, none⟩)] w fun e w' => e = .returned (.tuple #[.int .i64 (firstI K), .nilIface]) ∧ w' = w := by
  rcases h with ⟨rfl, _⟩ | ⟨mn, mx, g, L, cp, rest, T, ⟨off, h, _⟩, hz, h1, h2, h3, h4, h5, h6, h7, h8⟩
  · omega
  · rw [firstI_of ha hp (m := mn) (by rw [hf]; exact h6) (fun i hi => by rw [hf]; exact hz i (.inl hi))]
    exact minD_any p n h3 hn mn w (DS.cells h).2.1 (DS.cells h).2.2.2.1
theorem DTell.max {f : Int → Nat} {n p : Nat} {w : World} {K : Bins} (h : DTell f n p w) (ha : Asc K) (hp : Pos K) (hf : cntB K = f) (hn : 0 < n) : Calls Tryz.prog 207 #[.pointer (some ⟨p, 0, none⟩)] w fun e w' => e = .returned (.tuple #[.int .i64 (lastI K), .nilIface]) ∧ w' = w := by
  rcases h with ⟨rfl, _⟩ | ⟨mn, mx, g, L, cp, rest, T, ⟨off, h, _⟩, hz, h1, h2, h3, h4, h5, h6, h7, h8⟩
  · omega
  · rw [lastI_of ha hp (m := mx) (by rw [hf]; exact h7) (fun i hi => by rw [hf]; exact hz i (.inr hi))]
    exact maxD_any p n h3 hn mx w (DS.cells h).2.1 (DS.cells h).2.2.2.2
theorem DTell.minE {f : Int → Nat} {p : Nat} {w : World} (h : DTell f 0 p w) : Calls Tryz.prog 209 #[.pointer (some ⟨p, 0, none⟩)] w fun e w' => (∃ T v, e = .returned (.tuple #[.int .i64 0, .iface T v])) ∧ w' = w := by
  rcases h with ⟨_, _, rest, T, h⟩ | ⟨mn, mx, g, L, cp, rest, T, _, _, _, h2, _⟩
  · exact minDE_any p w (DS.cells h).2.1
  · omega
theorem DTell.maxE {f : Int → Nat} {p : Nat} {w : World} (h : DTell f 0 p w) : Calls Tryz.prog 207 #[.pointer (some ⟨p, 0, none⟩)] w fun e w' => (∃ T v, e = .returned (.tuple #[.int .i64 0, .iface T v])) ∧ w' = w := by
  rcases h with ⟨_, _, rest, T, h⟩ | ⟨mn, mx, g, L, cp, rest, T, _, _, _, h2, _⟩
  · exact maxDE_any p w (DS.cells h).2.1
  · omega

theorem keeps_below {kind : Int} {K : StoreKind kind} {most : Int} {xs : Bins} {S : Nat → Prop} {p : Nat} {w w' : World} (h : K.St most xs S p w) (hb : Below w.heap.size w w') : Keeps K most xs S p w w' := by
  have hf := Fr.of_below hb
  exact ⟨K.fr most xs S p _ w w' h hf (fun k hk h2 => absurd (K.lt most xs S p w h k hk) (Nat.not_lt.2 h2)), hf.mono (fun k hk h2 => absurd hk (Nat.not_lt.2 h2))⟩

/-- A dense store, whatever its kind. -/
def toldOf {kind : Int} (K : StoreKind kind)
    (m1 : ∀ p w, (method 405 K.T (.pointer (some ⟨p, 0, none⟩)) "TotalCount").run Tryz.prog w = .ok (211, .pointer (some ⟨p, 0, none⟩)) w)
    (m2 : ∀ p w, (method 405 K.T (.pointer (some ⟨p, 0, none⟩)) "IsEmpty").run Tryz.prog w = .ok (205, .pointer (some ⟨p, 0, none⟩)) w)
    (m3 : ∀ p w, (method 405 K.T (.pointer (some ⟨p, 0, none⟩)) "Bins").run Tryz.prog w = .ok (199, .pointer (some ⟨p, 0, none⟩)) w)
    (m4 : ∀ p w, (method 405 K.T (.pointer (some ⟨p, 0, none⟩)) "MinIndex").run Tryz.prog w = .ok (209, .pointer (some ⟨p, 0, none⟩)) w)
    (m5 : ∀ p w, (method 405 K.T (.pointer (some ⟨p, 0, none⟩)) "MaxIndex").run Tryz.prog w = .ok (207, .pointer (some ⟨p, 0, none⟩)) w)
    (hv : ∀ most xs S p w, K.St most xs S p w → Few kind most xs → DTell (cntB (keptB kind most xs)) (tot xs) p w) : ToldKind K where
  fTot := 211
  fEmp := 205
  fBin := 199
  fMin := 209
  fMax := 207
  mTot := m1
  mEmp := m2
  mBin := m3
  mMin := m4
  mMax := m5
  eTot := enters_of Tryz.func211 (by kernel_rfl) rfl
  eEmp := enters_of Tryz.func205 (by kernel_rfl) rfl
  eBin := enters_of Tryz.func199 (by kernel_rfl) rfl
  eMin := enters_of Tryz.func209 (by kernel_rfl) rfl
  eMax := enters_of Tryz.func207 (by kernel_rfl) rfl
  cTot := fun most xs S p w h hf => (hv most xs S p w h hf).tot.mono fun e w' ⟨a, b⟩ => ⟨a, by subst b; exact keeps_below h (Below.refl _ _)⟩
  cEmp := fun most xs S p w h hf => (hv most xs S p w h hf).emp.mono fun e w' ⟨a, b⟩ => ⟨by rw [a, isEmpty_tot hf.pos], by subst b; exact keeps_below h (Below.refl _ _)⟩
  cBin := fun most xs S p w h hf => ((hv most xs S p w h hf).bins (kept_asc kind most xs) (kept_pos kind most hf.pos) rfl).mono fun e w' a => ⟨(tellsB_of a).1, keeps_below h (tellsB_of a).2⟩
  cMin := fun most xs S p w h hf hn => ((hv most xs S p w h hf).min (kept_asc kind most xs) (kept_pos kind most hf.pos) rfl (tot_pos hf.pos hn)).mono fun e w' ⟨a, b⟩ => ⟨a, by subst b; exact keeps_below h (Below.refl _ _)⟩
  cMax := fun most xs S p w h hf hn => ((hv most xs S p w h hf).max (kept_asc kind most xs) (kept_pos kind most hf.pos) rfl (tot_pos hf.pos hn)).mono fun e w' ⟨a, b⟩ => ⟨a, by subst b; exact keeps_below h (Below.refl _ _)⟩
  cMinE := fun most S p w h hf => (hv most [] S p w h hf).minE.mono fun e w' ⟨a, b⟩ => ⟨a, by subst b; exact keeps_below h (Below.refl _ _)⟩
  cMaxE := fun most S p w h hf => (hv most [] S p w h hf).maxE.mono fun e w' ⟨a, b⟩ => ⟨a, by subst b; exact keeps_below h (Below.refl _ _)⟩

def toldD : ToldKind kindD := toldOf kindD (fun _ _ => by kernel_rfl) (fun _ _ => by kernel_rfl) (fun _ _ => by kernel_rfl) (fun _ _ => by kernel_rfl) (fun _ _ => by kernel_rfl) fun most xs S p w h hf => by
  have h' : StD most xs S p w := h
  rcases h' with ⟨rfl, h2, _⟩ | ⟨mn, mx, g, L, cp, h1, h2, h3, h4⟩
  · exact .inl ⟨rfl, fun i => by rw [kept_nil]; rfl, [], 171, h2⟩
  · rw [cnt_kept0 (by decide) (by decide)]
    exact .inr ⟨mn, mx, g, L, cp, [], 171, h1.ok, h1.zero, h1.le, h1.pos, h1.lt, h1.lo, h1.hi, h2, h3, tot2_cnt hf.inR⟩

def toldL : ToldKind kindL := toldOf kindL (fun _ _ => by kernel_rfl) (fun _ _ => by kernel_rfl) (fun _ _ => by kernel_rfl) (fun _ _ => by kernel_rfl) (fun _ _ => by kernel_rfl) fun most xs S p w h hf => by
  have h' : StL most xs S p w := h
  obtain ⟨m, rfl, hm1, hm2, h'⟩ := h'
  rcases h' with ⟨rfl, h2, _⟩ | ⟨col, mn, mx, g, L, cp, h1, h2, h3, h4, h5⟩
  · exact .inl ⟨rfl, fun i => by rw [kept_nil]; rfl, _, _, h2⟩
  · rw [cnt_kept3 hf.inR hf.pos h3 h2]
    have hle := h1.le
    have hmx : 0 < sqL (cntB xs) (mx - m + 1) mx := by
      show 0 < if mx < mx - m + 1 then 0 else if mx = mx - m + 1 then cum (cntB xs) (mx - m + 1 + 1) else cntB xs mx
      rw [if_neg (by omega)]
      split
      · rename_i e
        rw [← e]
        have := cum_succ (cntB xs) mx (by have := h1.lo; omega)
        omega
      · exact h3
    exact .inr ⟨mn, mx, g, L, cp, _, _, h1.ok, h1.zero, hle, h1.pos, h1.lt, h1.lo, h1.hi, h4, hmx, h1.tot.symm⟩

def toldH : ToldKind kindH := toldOf kindH (fun _ _ => by kernel_rfl) (fun _ _ => by kernel_rfl) (fun _ _ => by kernel_rfl) (fun _ _ => by kernel_rfl) (fun _ _ => by kernel_rfl) fun most xs S p w h hf => by
  have h' : StH most xs S p w := h
  obtain ⟨m, rfl, hm1, hm2, h'⟩ := h'
  rcases h' with ⟨rfl, h2, _⟩ | ⟨col, mn, mx, g, L, cp, h1, h2, h3, h4, h5⟩
  · exact .inl ⟨rfl, fun i => by rw [kept_nil]; rfl, _, _, h2⟩
  · rw [cnt_kept4 hf.inR hf.pos h3 h2]
    have hle := h1.le
    have hmn : 0 < sqH (cntB xs) (mn + m - 1) mn := by
      show 0 < if mn + m - 1 < mn then 0 else if mn = mn + m - 1 then tot2 (cntB xs) - cum (cntB xs) (mn + m - 1) else cntB xs mn
      rw [if_neg (by omega)]
      split
      · rename_i e
        rw [← e]
        have e1 := cum_succ (cntB xs) mn h1.lo
        have e2 := cum_le_tot (cntB xs) (mn + 1) (by have := h1.hi; omega)
        omega
      · exact h3
    exact .inr ⟨mn, mx, g, L, cp, _, _, h1.ok, h1.zero, hle, h1.pos, h1.lt, h1.lo, h1.hi, hmn, h4, h1.tot.symm⟩
end Go.Proofs.YtnmbjalojgccmaaGreat
end
/-
  What the sparse store tells.
-/
section
namespace Go.Proofs.YtnmbjalojgccmaaGreat
open Go.RowKit Go.Maps

theorem empty_iff {xs : Bins} (hp : Pos xs) : (∀ i, cntB xs i = 0) ↔ xs = [] := by
  constructor
  · intro h
    cases xs with
    | nil => rfl
    | cons p t =>
      have h1 := h p.1
      have h2 : cntB (p :: t) p.1 = addAt (cntB t) p.1 p.2 p.1 := rfl
      have h3 := hp p List.mem_cons_self
      rw [h2] at h1
      have h4 : addAt (cntB t) p.1 p.2 p.1 = cntB t p.1 + p.2 := by show (if p.1 = p.1 then _ else _) = _; rw [if_pos rfl]
      omega
  · rintro rfl i; rfl
theorem bool_empty {xs : Bins} {B : Bool} (h : B = true ↔ xs = []) : B = xs.isEmpty := by
  cases xs with
  | nil => exact h.2 rfl
  | cons p t =>
    show B = false
    cases B with
    | false => rfl
    | true => exact absurd (h.1 rfl) (List.cons_ne_nil p t)
theorem kept_ne {kind most : Int} {xs : Bins} (hp : Pos xs) (h : xs ≠ []) : keptB kind most xs ≠ [] := fun e => by
  have h1 := kept_tot kind most xs
  have h2 := tot_pos hp h
  rw [e] at h1
  have : tot [] = 0 := rfl
  omega

def toldS : ToldKind kindS where
  fTot := 256
  fEmp := 250
  fBin := 244
  fMin := 254
  fMax := 252
  mTot := fun _ _ => by kernel_rfl
  mEmp := fun _ _ => by kernel_rfl
  mBin := fun _ _ => by kernel_rfl
  mMin := fun _ _ => by kernel_rfl
  mMax := fun _ _ => by kernel_rfl
  eTot := enters_of Tryz.func256 (by kernel_rfl) rfl
  eEmp := enters_of Tryz.func250 (by kernel_rfl) rfl
  eBin := enters_of Tryz.func244 (by kernel_rfl) rfl
  eMin := enters_of Tryz.func254 (by kernel_rfl) rfl
  eMax := enters_of Tryz.func252 (by kernel_rfl) rfl
  cTot := fun most xs S p w h hf => by
    obtain ⟨b, h1, h2⟩ := id h
    have htt := tot2_cnt hf.inR
    refine (totalS_any (cntB xs) p b xs.length w h1 (by have := hf.len; omega) (fun i hi => cntB_inR hf.inR i hi) (by have := hf.tot; omega)).mono fun e w' ⟨a, hb⟩ => ⟨by rw [a, htt], keeps_below h hb⟩
  cEmp := fun most xs S p w h hf => by
    obtain ⟨b, h1, h2⟩ := id h
    refine (isEmptyS_any (cntB xs) p b xs.length w h1).mono ?_
    rintro e w' ⟨⟨B, rfl, hB⟩, rfl⟩
    exact ⟨by rw [bool_empty (hB.trans (empty_iff hf.pos))], keeps_below h (Below.refl _ _)⟩
  cBin := fun most xs S p w h hf => by
    obtain ⟨b, h1, h2⟩ := id h
    refine (binsS_any (cntB xs) p b xs.length (keptB 1 most xs) w h1 (by have := hf.len; omega) (fun i hi => cntB_inR hf.inR i hi) (by rw [tot2_cnt hf.inR]; have := hf.tot; omega) (kept_asc 1 most xs) (kept_pos 1 most hf.pos) (cnt_kept0 (by decide) (by decide) xs)).mono fun e w' a => ⟨(tellsB_of a).1, keeps_below h (tellsB_of a).2⟩
  cMin := fun most xs S p w h hf hn => by
    obtain ⟨b, h1, h2⟩ := id h
    have hc := cnt_first (kept_asc 1 most xs) (kept_pos 1 most hf.pos) (kept_ne hf.pos hn)
    rw [cnt_kept0 (by decide) (by decide) xs] at hc
    exact (minS_any (cntB xs) p b xs.length _ w h1 (by have := hf.len; omega) (fun i hi => cntB_inR hf.inR i hi) (by rw [tot2_cnt hf.inR]; have := hf.tot; omega) hc.1 hc.2).mono fun e w' ⟨a, hb⟩ => ⟨a, keeps_below h hb⟩
  cMax := fun most xs S p w h hf hn => by
    obtain ⟨b, h1, h2⟩ := id h
    have hc := cnt_last (kept_asc 1 most xs) (kept_pos 1 most hf.pos) (kept_ne hf.pos hn)
    rw [cnt_kept0 (by decide) (by decide) xs] at hc
    exact (maxS_any (cntB xs) p b xs.length _ w h1 (by have := hf.len; omega) (fun i hi => cntB_inR hf.inR i hi) (by rw [tot2_cnt hf.inR]; have := hf.tot; omega) hc.1 hc.2).mono fun e w' ⟨a, hb⟩ => ⟨a, keeps_below h hb⟩
  cMinE := fun most S p w h hf => by
    obtain ⟨b, h1, h2⟩ := id h
    exact (minSE_any (cntB []) p b 0 w h1 (fun _ => rfl)).mono fun e w' ⟨a, hb⟩ => ⟨a, by subst hb; exact keeps_below h (Below.refl _ _)⟩
  cMaxE := fun most S p w h hf => by
    obtain ⟨b, h1, h2⟩ := id h
    exact (maxSE_any (cntB []) p b 0 w h1 (fun _ => rfl)).mono fun e w' ⟨a, hb⟩ => ⟨a, by subst hb; exact keeps_below h (Below.refl _ _)⟩
end Go.Proofs.YtnmbjalojgccmaaGreat
end
