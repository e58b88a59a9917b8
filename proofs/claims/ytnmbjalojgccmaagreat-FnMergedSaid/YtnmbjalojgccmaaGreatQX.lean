/-
  The store with pages: its small functions; a new one.
-/
import Derived.Test.YtnmbjalojgccmaaGreatQV
import Derived.Test.YtnmbjalojgccmaaGreatQG
import Derived.Deep.RegionLaw
import Derived.Deep.QuietTactic
import Derived.BigQuiet
section
namespace Go.Proofs.YtnmbjalojgccmaaGreat
open Go.RowKit
variable {tg : Int}

set_option maxRecDepth 100000 in
theorem pageIndex_any (p : Nat) (x : Int) (w : World) (h4 : w.cell? ⟨p, 4, none⟩ = some (.int .i64 5)) :
    Calls Tryz.prog 311 #[.pointer (some ⟨p, 0, none⟩), .int .i64 x] w fun e w' => e = .returned (.int .i64 (x / 32)) ∧ w = w' := by
  go_enter Tryz.func311, Tryz.ntmps311
  go_wp2
  go_ret
  exact ⟨rfl, rfl⟩

set_option maxRecDepth 100000 in
theorem lineIndex_any (p : Nat) (x : Int) (w : World) (h5 : w.cell? ⟨p, 5, none⟩ = some (.int .i64 31)) :
    Calls Tryz.prog 312 #[.pointer (some ⟨p, 0, none⟩), .int .i64 x] w fun e w' => e = .returned (.int .i64 (x % 32)) ∧ w = w' := by
  have hb := bits31 x
  go_enter Tryz.func312, Tryz.ntmps312
  go_wp2
  go_ret
  exact ⟨rfl, rfl⟩

set_option maxRecDepth 100000 in
theorem index_any (p : Nat) (x y : Int) (w : World) (h4 : w.cell? ⟨p, 4, none⟩ = some (.int .i64 5)) (x1 : -100000 ≤ x) (x2 : x ≤ 100000) (y1 : 0 ≤ y) (y2 : y ≤ 100) :
    Calls Tryz.prog 316 #[.pointer (some ⟨p, 0, none⟩), .int .i64 x, .int .i64 y] w fun e w' => e = .returned (.int .i64 (32 * x + y)) ∧ w = w' := by
  have i1 : IntKind.i64.wrap (x * 32) = 32 * x := by rw [IntKind.wrap_i64]; omega
  have i2 : IntKind.i64.wrap (32 * x + y) = 32 * x + y := by rw [IntKind.wrap_i64]; omega
  clear x1 x2 y1 y2
  go_enter Tryz.func316, Tryz.ntmps316
  go_wp2
  go_ret
  exact ⟨rfl, rfl⟩

set_option maxRecDepth 100000 in
theorem newPagesLen_any (s : Value) (r : Nat) (hr : r < 10000) (w : World) :
    Calls Tryz.prog 320 #[s, .int .i64 r] w fun e w' => e = .returned (.int .i64 (((r + 7) / 8 * 8 : Nat) : Int)) ∧ w = w' := by
  have hb := bitsM8 (r + 7) (by omega)
  rw [show ((r + 7 : Nat) : Int) = (r : Int) + 7 from by omega] at hb
  obtain ⟨z, hz⟩ : ∃ z, z = (r + 7) / 8 * 8 := ⟨_, rfl⟩
  rw [← hz] at hb ⊢
  have i1 : IntKind.i64.wrap ((r : Int) + 8) = (r : Int) + 8 := by rw [IntKind.wrap_i64]; omega
  have i2 : IntKind.i64.wrap ((r : Int) + 8 - 1) = (r : Int) + 7 := by rw [IntKind.wrap_i64]; omega
  clear hz hr
  go_enter Tryz.func320, Tryz.ntmps320
  go_wp2
  go_ret
  exact ⟨rfl, rfl⟩

set_option maxRecDepth 100000 in
theorem newP_any (w : World) : Calls Tryz.prog 78 #[] w fun e w' => ∃ p bufv, e = .returned (.pointer (some ⟨p, 0, none⟩)) ∧
    Paged 64 (fun _ => 0) [] (fun _ => none) 9223372036854775807 0 p bufv (.slice none 0 0) w' ∧ (∀ k, PFoot (fun _ => none) p bufv (.slice none 0 0) k → w.heap.size ≤ k) ∧ Fr (fun _ => False) w w' := by
  have infoI : (Tryz.prog.info? 3).map (fun i => (i.zero, i.size, i.bytes)) = some (some (.int .i64 0), 1, 8) := by kernel_rfl
  obtain ⟨i0, hi, hz0, hz1, hz2⟩ := info_parts infoI
  have hmk := run_make (P := Tryz.prog) w 32 3 i0 (.int .i64 0) Tryz.underlying32 hi hz0 .i64 .i64 0 4 (by decide) (by decide) (by rw [hz2]; decide) (by decide)
  rw [hz1, show ((4 : Int).toNat) = 4 from rfl, show ((0 : Int).toNat) = 0 from rfl] at hmk
  obtain ⟨cs, hcs⟩ : ∃ cs, cs = madeCells (Value.int .i64 0).cells (4 * 1) := ⟨_, rfl⟩
  rw [← hcs] at hmk
  have hsz : cs.size = 4 * 1 := by rw [hcs]; exact size_madeCells _ _
  clear hi hz0 hz1 hz2 infoI hcs
  go_enter Tryz.func78, Tryz.ntmps78
  go_wp2
  go_ret
  have hp : PS ((w.alloc (.cells cs 3)).alloc (.cells #[.slice (some ⟨w.heap.size, 0, none⟩) 0 4, .int .i64 64, .slice none 0 0, .int .i64 9223372036854775807, .int .i64 5, .int .i64 31] 177)) (w.heap.size + 1) (.slice (some ⟨w.heap.size, 0, none⟩) 0 4) 64 (.slice none 0 0) 9223372036854775807 := by
    have h := heap_alloc_new (w.alloc (.cells cs 3)) (.cells #[.slice (some ⟨w.heap.size, 0, none⟩) 0 4, .int .i64 64, .slice none 0 0, .int .i64 9223372036854775807, .int .i64 5, .int .i64 31] 177)
    rw [show (w.alloc (.cells cs 3)).heap.size = w.heap.size + 1 from by simp] at h
    exact h
  refine ⟨w.heap.size + 1, _, rfl, ⟨⟨hp, (World.ownsRow_made w cs 4 (Nat.zero_le _) (by unfold maxLen; omega) hsz).alloc _, World.ownsRow_nil _ _ _ _, (fun x b cp h => by cases h), (fun _ _ _ _ _ => rfl), (fun x y b cp cp' h => by cases h)⟩, (fun x b cp h => by cases h), .inl ⟨rfl, rfl, rfl⟩⟩, fun k hk => ?_, ((Fr.refl _ w).alloc _).alloc _⟩
  rcases hk with h | h | h | ⟨x, cp, h⟩
  · omega
  · cases h; exact Nat.le_refl _
  · simp [Value.ownBlock] at h
  · cases h
end Go.Proofs.YtnmbjalojgccmaaGreat
end
/-
  The store with pages: a page is given, and made if it isn't there.
-/
section
namespace Go.Proofs.YtnmbjalojgccmaaGreat
open Go.RowKit
variable {tg : Int}

theorem PFoot.more {q : Int → Option (Nat × Nat)} {p : Nat} {bufv pgs : Value} {k : Nat} (h : PFoot q p (.slice none 0 0) pgs k) : PFoot q p bufv pgs k := by
  rcases h with h | h | h | h
  · exact .inl h
  · simp [Value.ownBlock] at h
  · exact .inr (.inr (.inl h))
  · exact .inr (.inr (.inr h))

/-- Behind 'page': the page is there. -/
def PageGiven (tg : Int) (G : Int → Nat) (bs : List Int) (q : Int → Option (Nat × Nat)) (p : Nat) (bufv pgs : Value) (pi : Int) (w : World) (e : Ending) (w' : World) : Prop :=
  ∃ q' mp' n' pgs' b cp, e = .returned (.slice (some ⟨b, 0, none⟩) 32 cp) ∧ Paged tg G bs q' mp' n' p bufv pgs' w' ∧ q' pi = some (b, cp) ∧ Fr (PFoot q p (.slice none 0 0) pgs) w w' ∧ (∀ k, PFoot q' p bufv pgs' k → PFoot q p bufv pgs k ∨ w.heap.size ≤ k)

/-- The row of pages, where there are some. -/
theorem Paged.rowAt {G : Int → Nat} {bs : List Int} {q : Int → Option (Nat × Nat)} {mp : Int} {n p : Nat} {bufv pgs : Value} {w : World} (h : Paged tg G bs q mp n p bufv pgs w) (hn : 0 < n) :
    ∃ g cp, pgs = .slice (some ⟨g, 0, none⟩) n cp ∧ n ≤ cp ∧ ∀ j : Nat, j < n → w.cell? ⟨g, j, none⟩ = some (pgV (q (mp + (j : Int)))) := by
  have hr := h.core.row
  rcases id hr.2 with ⟨h1, h2⟩ | ⟨g, cp, cur, h1, _, _, h5, _⟩
  · omega
  · subst h1
    refine ⟨g, cp, rfl, h5, fun j hj => ?_⟩
    rw [World.ownsRow.cellAt hr j (by omega), rowV_get _ _ _ hj]

/-- A new page, put into its place. -/
theorem Paged.newPage {G : Int → Nat} {bs : List Int} {q : Int → Option (Nat × Nat)} {mp : Int} {n p : Nat} {bufv : Value} {g c0 : Nat} {W w1 : World} {j : Nat} {pi : Int} {b cp : Nat}
   (h : Paged tg G bs q mp n p bufv (.slice (some ⟨g, 0, none⟩) n c0) W) (hj : j < n) (hpi : pi = mp + (j : Int)) (hpr : -320 ≤ pi ∧ pi ≤ 320) (hq : q pi = none) (hrow : Row w1 b 32 cp (fun _ => 0)) (hgr : W.grownBy w1 none) (hb : b = W.heap.size) :
    Paged tg G bs (upd q pi (some (b, cp))) mp n p bufv (.slice (some ⟨g, 0, none⟩) n c0) (w1.setCell ⟨g, j, none⟩ (.slice (some ⟨b, 0, none⟩) 32 cp)) := by
  have h1 := h.core.grown hgr
  have h2 := h1.setPage j (.slice (some ⟨b, 0, none⟩) 32 cp)
  have hgW : g < W.heap.size := by obtain ⟨_, hc⟩ := owns_tag h.core.row (k := g) rfl; exact lt_of_block hc
  refine ⟨⟨h2.fields, h2.buf, ?_, fun x b2 cp2 hx => ?_, fun x hx k k0 k1 => ?_, fun x y b2 c1 c2 hx hy => ?_⟩, fun x b2 cp2 hx => ?_, h.bd⟩
  · have h3 := h2.row
    rw [rowV_ext (b := fun i => pgV (upd q pi (some (b, cp)) (mp + (i : Int))))] at h3
    · exact h3
    · intro i hi
      unfold upd
      by_cases c : i = j
      · rw [if_pos c, if_pos (by rw [c, hpi])]; rfl
      · rw [if_neg c, if_neg (by omega)]
  · unfold upd at hx
    by_cases c : x = pi
    · rw [if_pos c] at hx
      cases hx
      refine (hrow.ext (fun k hk => ?_)).other (by show g ≠ _; omega) _
      rw [c]; exact (h.core.zero pi hq (k : Int) (by omega) (by omega)).symm
    · rw [if_neg c] at hx
      exact h2.page x b2 cp2 hx
  · unfold upd at hx
    by_cases c : x = pi
    · rw [if_pos c] at hx; cases hx
    · rw [if_neg c] at hx; exact h.core.zero x hx k k0 k1
  · have hold : ∀ x b2 c2, q x = some (b2, c2) → b2 ≠ b := fun x b2 c2 hx => by have := (h.core.page x b2 c2 hx).lt; omega
    unfold upd at hx hy
    by_cases c : x = pi
    · by_cases c3 : y = pi
      · rw [c, c3]
      · rw [if_pos c] at hx; rw [if_neg c3] at hy; cases hx; exact absurd rfl (hold y _ _ hy)
    · by_cases c3 : y = pi
      · rw [if_neg c] at hx; rw [if_pos c3] at hy; cases hy; exact absurd rfl (hold x _ _ hx)
      · rw [if_neg c] at hx; rw [if_neg c3] at hy; exact h.core.inj x y b2 c1 c2 hx hy
  · unfold upd at hx
    by_cases c : x = pi
    · rw [c]; omega
    · rw [if_neg c] at hx; exact h.inside x b2 cp2 hx

theorem PFoot.newPage {q : Int → Option (Nat × Nat)} {p : Nat} {bufv pgs : Value} {pi : Int} {b cp k : Nat} (h : PFoot (upd q pi (some (b, cp))) p bufv pgs k) : PFoot q p bufv pgs k ∨ k = b := by
  rcases h with h | h | h | ⟨x, c, h⟩
  · exact .inl (.inl h)
  · exact .inl (.inr (.inl h))
  · exact .inl (.inr (.inr (.inl h)))
  · unfold upd at h
    split at h
    · cases h; exact .inr rfl
    · exact .inl (.inr (.inr (.inr ⟨x, c, h⟩)))

set_option maxRecDepth 100000 in
set_option maxHeartbeats 400000 in
theorem pageA1_any (G : Int → Nat) (bs : List Int) (q : Int → Option (Nat × Nat)) (mp : Int) (n p : Nat) (bufv pgs : Value) (pi : Int) (b cp : Nat) (w : World) (h : Paged tg G bs q mp n p bufv pgs w) (hq : q pi = some (b, cp)) :
    Calls Tryz.prog 314 #[.pointer (some ⟨p, 0, none⟩), .int .i64 pi, .bool true] w fun e w' => PageGiven tg G bs q p bufv pgs pi w e w' := by
  obtain ⟨hi1, hi2, -⟩ := h.inside pi b cp hq
  have hn : 0 < n := by omega
  have hbd : -330 ≤ mp ∧ mp + (n : Int) ≤ 330 := by rcases h.bd with ⟨h1, _, _⟩ | ⟨_, h2, h3⟩ <;> omega
  obtain ⟨g, c0, rfl, hgc, hcell⟩ := h.rowAt hn
  obtain ⟨j, hj⟩ : ∃ j : Nat, pi = mp + (j : Int) := ⟨(pi - mp).toNat, by omega⟩
  subst hj
  have hjn : j < n := by omega
  have hjn' : (j : Int) < (n : Int) := by omega
  have hc := hcell j hjn
  rw [hq] at hc
  replace hc : w.cell? ⟨g, j, none⟩ = some (.slice (some ⟨b, 0, none⟩) 32 cp) := hc
  obtain ⟨d0, d1, d2, d3, d4, d5⟩ := h.core.fields.cells
  have q1 : decide (mp ≤ mp + (j : Int)) = true := by simp; omega
  have i1 : IntKind.i64.wrap (mp + (n : Int)) = mp + (n : Int) := by rw [IntKind.wrap_i64]; omega
  have i2 : IntKind.i64.wrap (mp + (j : Int) - mp) = (j : Int) := by rw [IntKind.wrap_i64]; omega
  have q2 : decide (mp + (j : Int) < mp + (n : Int)) = true := by simpa using hjn'
  have HH := Lib.hid h
  have HQ := Lib.hid hq
  clear h hq hcell hi1 hi2
  go_enter Tryz.func314, Tryz.ntmps314
  go_wp2
  go_quiet (fail)
  go_wp2
  revert nq
  intro n1
  go_quiet (fail)
  go_wp2
  go_ret
  exact ⟨q, mp, n, _, b, cp, rfl, HH.out.drewN (n1 + nq), HQ.out, (Fr.refl _ w).drewN (n1 + nq), fun k hk => .inl hk⟩
set_option maxRecDepth 100000 in
set_option maxHeartbeats 400000 in
theorem pageA2_any (G : Int → Nat) (bs : List Int) (q : Int → Option (Nat × Nat)) (mp : Int) (n p : Nat) (bufv pgs : Value) (pi : Int) (w : World) (h : Paged tg G bs q mp n p bufv pgs w) (hq : q pi = none) (hi1 : mp ≤ pi) (hi2 : pi < mp + n) (hp1 : -320 ≤ pi) (hp2 : pi ≤ 320) :
    Calls Tryz.prog 314 #[.pointer (some ⟨p, 0, none⟩), .int .i64 pi, .bool true] w fun e w' => PageGiven tg G bs q p bufv pgs pi w e w' := by
  have hn : 0 < n := by omega
  have hbd : -330 ≤ mp ∧ mp + (n : Int) ≤ 330 := by rcases h.bd with ⟨h1, _, _⟩ | ⟨_, h2, h3⟩ <;> omega
  obtain ⟨g, c0, rfl, hgc, hcell⟩ := h.rowAt hn
  obtain ⟨j, hj⟩ : ∃ j : Nat, pi = mp + (j : Int) := ⟨(pi - mp).toNat, by omega⟩
  have hjn : j < n := by omega
  have hc := hcell j hjn
  rw [← hj, hq] at hc
  replace hc : w.cell? ⟨g, j, none⟩ = some (.slice none 0 0) := hc
  have HQ := Lib.hid hq
  have HPI := Lib.hid (And.intro hp1 hp2)
  subst hj
  have hjn' : (j : Int) < (n : Int) := by omega
  obtain ⟨d0, d1, d2, d3, d4, d5⟩ := h.core.fields.cells
  have q1 : decide (mp ≤ mp + (j : Int)) = true := by simp; omega
  have i1 : IntKind.i64.wrap (mp + (n : Int)) = mp + (n : Int) := by rw [IntKind.wrap_i64]; omega
  have i2 : IntKind.i64.wrap (mp + (j : Int) - mp) = (j : Int) := by rw [IntKind.wrap_i64]; omega
  have q2 : decide (mp + (j : Int) < mp + (n : Int)) = true := by simpa using hjn'
  have HH := Lib.hid h
  clear h hq hcell hi1 hi2
  go_enter Tryz.func314, Tryz.ntmps314
  go_wp2
  go_quiet (fail)
  go_wp2
  revert nq
  intro n1
  go_quiet (fail)
  obtain ⟨W, hW⟩ : ∃ W, W = (w.drewN n1).drewN nq := ⟨_, rfl⟩
  have hhW : Paged tg G bs q mp n p bufv (.slice (some ⟨g, 0, none⟩) n c0) W := by rw [hW]; exact (HH.out.drewN n1).drewN nq
  have hcW : W.cell? ⟨g, j, none⟩ = some (.slice none 0 0) := by rw [hW]; exact hc
  have HFW : Hid (Fr (PFoot q p (.slice none 0 0) (.slice (some ⟨g, 0, none⟩) n c0)) w W) := by show Fr _ _ _; rw [hW]; exact ((Fr.refl _ w).drewN n1).drewN nq
  have HSZ : Hid (W.heap.size = w.heap.size) := by show _ = _; rw [hW]; rfl
  rw [← hW]
  have HHW := Lib.hid hhW
  clear hW hc d0 d1 d2 d3 d4 d5 HH hhW
  go_wp2_with (at_builtin; refine wpList_append_fz W rfl _ _ 23 3 rfl Tryz.underlying23 Tryz.underlying3 Tryz.infoF64 (.slice none 0 0) 0 32 (fun _ => 0) rfl rfl (.inl ⟨rfl, rfl⟩) (by decide) (by decide) (by decide) ?_; intro v' w1 hgr; obtain ⟨b, cp, rfl, hrow, hgrow, hg⟩ := hgr; have hb : b = W.heap.size := hg.elim (fun h => by simp [Value.ownBlock] at h) id; have hp1 := HHW.out.grown hgrow; have hc1 : w1.cell? ⟨g, j, none⟩ = some (.slice none 0 0) := (by obtain ⟨g2, c2, e, _, hcc⟩ := hp1.rowAt hn; cases e; have := hcc j hjn; rw [HQ.out] at this; exact this); have hf1 := World.ownsRow.frozenAt hp1.core.row j; have HRW := Lib.hid hrow; have HGR := Lib.hid hgrow; have HB := Lib.hid hb; clear hrow hgrow hg hb hp1 hcW)
  go_ret
  have hnew := HHW.out.newPage hjn rfl HPI.out HQ.out HRW.out HGR.out HB.out
  refine ⟨_, mp, n, _, b, cp, rfl, hnew, by unfold upd; rw [if_pos rfl], ?_, fun k hk => ?_⟩
  · refine (HFW.out.trans (T := fun _ => False) ⟨HGR.out.os, HGR.out.tape, HGR.out.output, HGR.out.size, fun k hk _ => HGR.out.block k hk (by simp [Value.ownBlock])⟩ (fun _ _ h => h) (fun _ _ h => h.elim)).setCell (p := ⟨g, j, none⟩) (fun _ => .inr (.inr (.inl rfl))) _
  · rcases hk.newPage with h | h
    · exact .inl h
    · right; rw [h, HB.out, HSZ.out]; exact Nat.le_refl _
end Go.Proofs.YtnmbjalojgccmaaGreat
end
