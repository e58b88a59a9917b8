/-
  The store with pages: AddWithCount.
-/
import Derived.Test.YtnmbjalojgccmaaGreatQYA
import Derived.Test.YtnmbjalojgccmaaGreatQYB
import Derived.Test.YtnmbjalojgccmaaGreatQYD
section
namespace Go.Proofs.YtnmbjalojgccmaaGreat
open Go.RowKit
variable {tg : Int}

theorem page_any (G : Int → Nat) (bs : List Int) (q : Int → Option (Nat × Nat)) (mp : Int) (n p : Nat) (bufv pgs : Value) (pi : Int) (w : World) (h : Paged tg G bs q mp n p bufv pgs w) (hp1 : -320 ≤ pi) (hp2 : pi ≤ 320) :
    Calls Tryz.prog 314 #[.pointer (some ⟨p, 0, none⟩), .int .i64 pi, .bool true] w fun e w' => PageGiven tg G bs q p bufv pgs pi w e w' := by
  cases hq : q pi with
  | some z => obtain ⟨b, cp⟩ := z; exact pageA1_any G bs q mp n p bufv pgs pi b cp w h hq
  | none =>
    rcases h.bd with ⟨rfl, rfl, rfl⟩ | ⟨hn, h1, h2⟩
    · exact pageB_any G bs q p bufv pi w h hp1 hp2
    · by_cases c1 : pi < mp
      · exact pageC_any G bs q mp n p bufv pgs pi w h hn c1 hp1 hp2
      · by_cases c2 : pi < mp + (n : Int)
        · exact pageA2_any G bs q mp n p bufv pgs pi w h hq (by omega) c2 hp1 hp2
        · exact pageD_any G bs q mp n p bufv pgs pi w h hn (by omega) hp1 hp2

/-- A count of two and more added: into a page; the buffer is not touched. -/
def AddedN (tg : Int) (G : Int → Nat) (bs : List Int) (q : Int → Option (Nat × Nat)) (p : Nat) (bufv pgs : Value) (i : Int) (c : Nat) (w : World) (e : Ending) (w' : World) : Prop :=
  ∃ q' mp' n' pgs', e = .returned (.tuple #[]) ∧ Paged tg (addAt G i c) bs q' mp' n' p bufv pgs' w' ∧ Fr (PFoot q p (.slice none 0 0) pgs) w w' ∧ (∀ k, PFoot q' p bufv pgs' k → PFoot q p bufv pgs k ∨ w.heap.size ≤ k)
set_option maxRecDepth 100000 in
set_option maxHeartbeats 400000 in
theorem addPn0_any (G : Int → Nat) (bs : List Int) (q : Int → Option (Nat × Nat)) (mp : Int) (n p : Nat) (bufv pgs : Value) (i : Int) (c : Nat) (w : World) (h : Paged tg G bs q mp n p bufv pgs w) (hc : 2 ≤ c) (hs : G i + c < 9007199254740992) (hi1 : -10000 ≤ i) (hi2 : i ≤ 10000) :
    Calls Tryz.prog 297 #[.pointer (some ⟨p, 0, none⟩), .int .i64 i, .float .f64 (nf c)] w fun e w' => AddedN tg G bs q p bufv pgs i c w e w' := by
  obtain ⟨pi, hpi⟩ : ∃ pi, pi = i / 32 := ⟨_, rfl⟩
  obtain ⟨l, hl⟩ : ∃ l : Nat, (l : Int) = i % 32 := ⟨(i % 32).toNat, by omega⟩
  have hl32 : (l : Int) < 32 := by omega
  obtain ⟨-, -, -, -, d4, d5⟩ := h.core.fields.cells
  have HPI := fun w h4 => pageIndex_any p i w h4
  have HLI := fun w h5 => lineIndex_any p i w h5
  rw [← hl] at HLI
  rw [← hpi] at HPI
  have HPG := page_any G bs q mp n p bufv pgs pi w h (by omega) (by omega)
  have hz := nf_ne_zero c (by omega) (by omega)
  have h1 : (FloatKind.f64.format.order (nf c) 4607182418800017408 == some .eq) = false := by
    rw [← nf_one, nf_order c 1 (by omega) (by decide), Nat.compare_eq_gt.2 (by omega)]; rfl
  have hadd := fun w : World => run_float_arith (P := Tryz.prog) w .add 30 .f64 _ _ _ (nf_add (G i) c hs)
  obtain ⟨y, hy⟩ : ∃ y, y = nf c := ⟨_, rfl⟩
  rw [← hy] at hz h1 hadd ⊢
  have HL := Lib.hid hl
  have HI := Lib.hid hpi
  clear h hpi hl hs hy
  go_enter Tryz.func297, Tryz.ntmps297
  go_wp2_with (first | (go_at_call 311; (with_reducible refine (HPI _ d4).mono ?_); rintro e w' ⟨rfl, rfl⟩) | (go_at_call 314; (with_reducible refine HPG.mono ?_); rintro e w1 ⟨q', mp', n', pgs', b, cp, rfl, hP, hq', hfr, hft⟩; have e5 := hP.core.fields.cells.2.2.2.2.2; have hrow := hP.core.page _ _ _ hq'; have hcl := hrow.cell l (by omega); have hfl := hrow.free l; rw [show 32 * pi + (l : Int) = i from (by have h2 := HL.out; have h3 := HI.out; omega)] at hcl; have HP := Lib.hid hP; have HQ := Lib.hid hq'; have HF := Lib.hid hfr; have HT := Lib.hid hft; clear hP hq' hfr hft hrow d4 d5 HPG) | (go_at_call 312; (with_reducible refine (HLI _ e5).mono ?_); rintro e w' ⟨rfl, rfl⟩))
  go_end0
  have hfin := HP.out.addTo i c l HL.out (by rw [← HI.out]; exact HQ.out)
  refine ⟨q', mp', n', _, rfl, hfin, ?_, HT.out⟩
  obtain ⟨_, hcb, _⟩ := (HP.out.core.page _ _ _ HQ.out).block
  refine HF.out.setCell (p := ⟨b, l, none⟩) (fun hlt => ?_) _
  rcases HT.out b (.inr (.inr (.inr ⟨_, _, HQ.out⟩))) with h | h
  · rcases h with h | h | h | h
    · exact .inl h
    · obtain ⟨_, hc⟩ := owns_tag HP.out.core.buf h; exact absurd rfl (tag_ne hc hcb (by decide))
    · exact .inr (.inr (.inl h))
    · exact .inr (.inr (.inr h))
  · exact absurd hlt (Nat.not_lt.2 h)

theorem addPn_any (G : Int → Nat) (bs : List Int) (q : Int → Option (Nat × Nat)) (mp : Int) (n p : Nat) (bufv pgs : Value) (i : Int) (c : Nat) (w : World) (h : Paged tg G bs q mp n p bufv pgs w) (hc : 2 ≤ c) (hs : G i + c < 9007199254740992) (hi1 : -10000 ≤ i) (hi2 : i ≤ 10000) :
    Calls Tryz.prog 297 #[.pointer (some ⟨p, 0, none⟩), .int .i64 i, .float .f64 (nf c)] w fun e w' => AddedP tg G bs q p bufv pgs i c w e w' := by
  refine (addPn0_any G bs q mp n p bufv pgs i c w h hc hs hi1 hi2).mono ?_
  rintro e w' ⟨q', mp', n', pgs', rfl, h1, h2, h3⟩
  refine ⟨addAt G i c, bs, q', mp', n', bufv, pgs', rfl, h1, both_addAt G bs i c, .inl rfl, fun x => ?_, h2.mono (fun _ _ h => h.more), h3⟩
  unfold addAt
  by_cases c : x = i
  · exact .inr c
  · rw [if_neg c]; exact .inl rfl

set_option maxRecDepth 100000 in
set_option maxHeartbeats 400000 in
theorem addPone_any (G : Int → Nat) (bs : List Int) (q : Int → Option (Nat × Nat)) (mp : Int) (n p : Nat) (bufv pgs : Value) (i : Int) (w : World) (h : Paged tg G bs q mp n p bufv pgs w) (hs : G i + 1 < 9007199254740992) (hlen : ((bs.length : Nat) : Int) < tg) (hlen2 : bs.length < 1000000000) (hi1 : -10000 ≤ i) (hi2 : i ≤ 10000) :
    Calls Tryz.prog 297 #[.pointer (some ⟨p, 0, none⟩), .int .i64 i, .float .f64 (nf 1)] w fun e w' => AddedP tg G bs q p bufv pgs i 1 w e w' := by
  have HA : Calls Tryz.prog 295 #[.pointer (some ⟨p, 0, none⟩), .int .i64 i] w fun e w' => AddedP tg G bs q p bufv pgs i 1 w e w' := by
    cases hq : q (i / 32) with
    | some z => obtain ⟨b, cp⟩ := z; exact addP1_any G bs q mp n p bufv pgs i b cp w h hq hs
    | none => exact addP2_any G bs q mp n p bufv pgs i w h hq hlen hlen2 hi1 hi2
  have hz := nf_ne_zero 1 (by omega) (by omega)
  have h1 : (FloatKind.f64.format.order 4607182418800017408 4607182418800017408 == some .eq) = true := by
    rw [← nf_one, nf_order 1 1 (by decide) (by decide)]; rfl
  rw [nf_one] at hz ⊢
  clear h hs
  go_enter Tryz.func297, Tryz.ntmps297
  go_wp2_with (go_at_call 295; (with_reducible refine HA.mono ?_); intro e w1 hx; have HX := Lib.hid hx; obtain ⟨_, _, _, _, _, _, _, rfl, -⟩ := hx; clear HA)
  go_end0
  exact HX.out

theorem addP_any (G : Int → Nat) (bs : List Int) (q : Int → Option (Nat × Nat)) (mp : Int) (n p : Nat) (bufv pgs : Value) (i : Int) (c : Nat) (w : World) (h : Paged tg G bs q mp n p bufv pgs w) (hc : 0 < c) (hs : G i + c < 9007199254740992) (hlen : ((bs.length : Nat) : Int) < tg) (hlen2 : bs.length < 1000000000) (hi1 : -10000 ≤ i) (hi2 : i ≤ 10000) :
    Calls Tryz.prog 297 #[.pointer (some ⟨p, 0, none⟩), .int .i64 i, .float .f64 (nf c)] w fun e w' => AddedP tg G bs q p bufv pgs i c w e w' := by
  by_cases h1 : c = 1
  · subst h1; exact addPone_any G bs q mp n p bufv pgs i w h hs hlen hlen2 hi1 hi2
  · exact addPn_any G bs q mp n p bufv pgs i c w h (by omega) hs hi1 hi2
end Go.Proofs.YtnmbjalojgccmaaGreat
end
