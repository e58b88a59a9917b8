/-
  The store with pages: Add.
-/
import Derived.Test.YtnmbjalojgccmaaGreatQX
import Derived.Test.YtnmbjalojgccmaaGreatQK
section
namespace Go.Proofs.YtnmbjalojgccmaaGreat
open Go.RowKit
variable {tg : Int}

/-- Behind an Add. -/
def AddedP (tg : Int) (G : Int → Nat) (bs : List Int) (q : Int → Option (Nat × Nat)) (p : Nat) (bufv pgs : Value) (i : Int) (c : Nat) (w : World) (e : Ending) (w' : World) : Prop :=
  ∃ G' bs' q' mp' n' bufv' pgs', e = .returned (.tuple #[]) ∧ Paged tg G' bs' q' mp' n' p bufv' pgs' w' ∧ both G' bs' = addAt (both G bs) i c ∧ (bs' = bs ∨ bs' = bs ++ [i]) ∧
    (∀ x, G' x = G x ∨ x = i) ∧ Fr (PFoot q p bufv pgs) w w' ∧ (∀ k, PFoot q' p bufv' pgs' k → PFoot q p bufv pgs k ∨ w.heap.size ≤ k)

theorem both_addAt (G : Int → Nat) (bs : List Int) (i : Int) (c : Nat) : both (addAt G i c) bs = addAt (both G bs) i c := by
  funext x
  simp only [both, addAt]
  split <;> omega
theorem both_snoc (G : Int → Nat) (bs : List Int) (i : Int) : both G (bs ++ [i]) = addAt (both G bs) i 1 := by
  funext x
  simp only [both, cntI_snoc, addAt]
  split <;> omega

section
variable {G : Int → Nat} {bs : List Int} {q : Int → Option (Nat × Nat)} {mp : Int} {n p : Nat} {bufv pgs : Value} {w : World}
/-- A count put into a page. -/
theorem Paged.addTo (h : Paged tg G bs q mp n p bufv pgs w) {b cp : Nat} (i : Int) (c j : Nat) (hj : (j : Int) = i % 32) (hq : q (i / 32) = some (b, cp)) :
    Paged tg (addAt G i c) bs q mp n p bufv pgs (w.setCell ⟨b, j, none⟩ (.float .f64 (nf (G i + c)))) := by
  have hrow := h.core.page _ _ _ hq
  obtain ⟨cb, hcb, _⟩ := hrow.block
  have hjlt : j < 32 := by omega
  have hset := hrow.set j (G i + c) hjlt
  refine ⟨⟨h.core.fields.other (tag_ne hcb h.core.fields (by decide)) _, ownsRow_setCell_other h.core.buf (fun e => ?_) _, ownsRow_setCell_other h.core.row (fun e => ?_) _, fun x b2 cp2 hx => ?_, fun x hx k k0 k1 => ?_, h.core.inj⟩, h.inside, h.bd⟩
  · obtain ⟨_, hc⟩ := owns_tag h.core.buf e; exact tag_ne hc hcb (by decide) rfl
  · obtain ⟨_, hc⟩ := owns_tag h.core.row e; exact tag_ne hc hcb (by decide) rfl
  · by_cases hxi : x = i / 32
    · subst hxi
      rw [hq] at hx
      cases hx
      refine hset.ext (fun k hk => ?_)
      unfold addAt
      by_cases c1 : (k : Int) = (j : Int)
      · rw [if_pos c1, if_pos (by omega), show 32 * (i / 32) + (k : Int) = i from by omega]
      · rw [if_neg c1, if_neg (by omega)]
    · have hne : b2 ≠ b := fun e => hxi (h.core.inj x (i / 32) b2 cp2 cp hx (by rw [hq, e]))
      refine ((h.core.page x b2 cp2 hx).other (fun e => hne e.symm) _).ext (fun k hk => ?_)
      unfold addAt
      rw [if_neg (by omega)]
  · unfold addAt
    by_cases c1 : 32 * x + k = i
    · have : x = i / 32 := by omega
      rw [this, hq] at hx; cases hx
    · rw [if_neg c1]; exact h.core.zero x hx k k0 k1
/-- An index put behind the buffer. -/
theorem Paged.bufTo (h : Paged tg G bs q mp n p bufv pgs w) {i : Int} {o : Obj} {w2 : World} {v' : Value} (hown : w2.ownsRow 0 3 1 v' (bs.length + 1) (bs.map (Value.int .i64) ++ [Value.int .i64 i])) (hgr : (w.alloc o).grownBy w2 bufv.ownBlock) :
    Paged tg G (bs ++ [i]) q mp n p v' pgs (w2.setCell ⟨p, 0, none⟩ v') := by
  have hbp : bufv.ownBlock ≠ some p := fun e => by obtain ⟨_, hc⟩ := owns_tag h.core.buf e; exact tag_ne hc h.core.fields (by decide) rfl
  have hsz : (w.alloc o).heap.size = w.heap.size + 1 := by simp
  have hold : ∀ k, k < w.heap.size → bufv.ownBlock ≠ some k → w2.heap[k]? = w.heap[k]? := fun k hk hne => (hgr.block k (by omega) (fun e => hne e.symm)).trans (Below.heap_alloc w o k hk)
  have hf : PS w2 p bufv tg pgs mp := (hold p h.core.fields.lt hbp).trans h.core.fields
  have hrowne : ∀ k, pgs.ownBlock = some k → bufv.ownBlock ≠ some k := fun k e e2 => by
    obtain ⟨_, hc⟩ := owns_tag h.core.row e; obtain ⟨_, hc2⟩ := owns_tag h.core.buf e2; exact tag_ne hc hc2 (by decide) rfl
  have hfr : Fr (fun k => bufv.ownBlock = some k) w w2 := ⟨hgr.os, hgr.tape, hgr.output, by have := hgr.size; omega, fun k hk hn => hold k hk hn⟩
  refine ⟨⟨hf.set0 v', ?_, ?_, fun x b cp hx => ?_, h.core.zero, h.core.inj⟩, h.inside, h.bd⟩
  · rw [List.length_append, List.map_append]
    refine ownsRow_setCell_other hown (fun e => ?_) _
    obtain ⟨_, hc⟩ := owns_tag hown e
    exact tag_ne hc hf (by decide) rfl
  · refine ownsRow_setCell_other (hfr.owns h.core.row (fun k hk => hrowne k hk)) (fun e => ?_) _
    obtain ⟨_, hc⟩ := owns_tag h.core.row e; exact tag_ne hc h.core.fields (by decide) rfl
  · obtain ⟨_, hc, _⟩ := (h.core.page x b cp hx).block
    refine ((h.core.page x b cp hx).fr hfr (fun e => ?_)).other (fun e => tag_ne hc h.core.fields (by decide) e.symm) _
    obtain ⟨_, hc2⟩ := owns_tag h.core.buf e; exact tag_ne hc hc2 (by decide) rfl
end

set_option maxRecDepth 100000 in
set_option maxHeartbeats 400000 in
theorem addP1_any (G : Int → Nat) (bs : List Int) (q : Int → Option (Nat × Nat)) (mp : Int) (n p : Nat) (bufv pgs : Value) (i : Int) (b cp : Nat) (w : World) (h : Paged tg G bs q mp n p bufv pgs w) (hq : q (i / 32) = some (b, cp)) (hs : G i + 1 < 9007199254740992) :
    Calls Tryz.prog 295 #[.pointer (some ⟨p, 0, none⟩), .int .i64 i] w fun e w' => AddedP tg G bs q p bufv pgs i 1 w e w' := by
  obtain ⟨hi1, hi2, -⟩ := h.inside _ b cp hq
  have hn : 0 < n := by omega
  have hbd : -330 ≤ mp ∧ mp + (n : Int) ≤ 330 := by rcases h.bd with ⟨h1, _, _⟩ | ⟨_, h2, h3⟩ <;> omega
  obtain ⟨g, c0, rfl, hgc, hcell⟩ := h.rowAt hn
  obtain ⟨pi, hpi⟩ : ∃ pi, pi = i / 32 := ⟨_, rfl⟩
  obtain ⟨j, hj⟩ : ∃ j : Nat, i / 32 - mp = (j : Int) := ⟨(i / 32 - mp).toNat, by omega⟩
  obtain ⟨l, hl⟩ : ∃ l : Nat, (l : Int) = i % 32 := ⟨(i % 32).toNat, by omega⟩
  have hjn : j < n := by omega
  have hjn' : (j : Int) < (n : Int) := by omega
  have hl32 : (l : Int) < 32 := by omega
  have hc := hcell j hjn
  rw [show mp + (j : Int) = i / 32 from by omega, hq] at hc
  replace hc : w.cell? ⟨g, j, none⟩ = some (.slice (some ⟨b, 0, none⟩) 32 cp) := hc
  have hrow := h.core.page _ _ _ hq
  have hcl := hrow.cell l (by omega)
  have hfl := hrow.free l
  rw [show 32 * (i / 32) + (l : Int) = i from by omega] at hcl
  obtain ⟨d0, d1, d2, d3, d4, d5⟩ := h.core.fields.cells
  have HPI := fun w h4 => pageIndex_any p i w h4
  have HLI := fun w h5 => lineIndex_any p i w h5
  rw [← hl] at HLI
  rw [← hpi] at HPI hj
  have q1 : decide (mp ≤ pi) = true := by simp; omega
  have i1 : IntKind.i64.wrap (mp + (n : Int)) = mp + (n : Int) := by rw [IntKind.wrap_i64]; omega
  have i2 : IntKind.i64.wrap (pi - mp) = (j : Int) := by rw [IntKind.wrap_i64]; omega
  have q2 : decide (pi < mp + (n : Int)) = true := by simp; omega
  have hadd := fun w : World => run_float_arith (P := Tryz.prog) w .add 30 .f64 _ _ _ (nf_add (G i) 1 hs)
  rw [nf_one] at hadd
  have HH := Lib.hid h
  have HQ := Lib.hid hq
  have HL := Lib.hid hl
  clear h hq hcell hi1 hi2 hrow hpi hj hl hs
  go_enter Tryz.func295, Tryz.ntmps295
  go_wp2_with (go_at_call 311; (with_reducible refine (HPI _ d4).mono ?_); rintro e w' ⟨rfl, rfl⟩)
  go_quiet (fail)
  obtain ⟨wa, hwa⟩ : ∃ wa, wa = w.drewN nq := ⟨_, rfl⟩
  have HHa : Hid (Paged tg G bs q mp n p bufv (.slice (some ⟨g, 0, none⟩) n c0) wa) := by show Paged tg _ _ _ _ _ _ _ _ _; rw [hwa]; exact HH.out.drewN nq
  have HFa : Hid (Fr (PFoot q p bufv (.slice (some ⟨g, 0, none⟩) n c0)) w wa) := by show Fr _ _ _; rw [hwa]; exact (Fr.refl _ w).drewN nq
  have hc' : wa.cell? ⟨g, j, none⟩ = some (.slice (some ⟨b, 0, none⟩) 32 cp) := by rw [hwa]; exact hc
  have hcl' : wa.cell? ⟨b, l, none⟩ = some (.float .f64 (nf (G i))) := by rw [hwa]; exact hcl
  have hfl' : wa.frozen? ⟨b, l, none⟩ = false := by rw [hwa]; exact hfl
  rw [← hwa]
  clear hwa HH d0 d1 d2 d3 d4 d5 hc hcl hfl
  obtain ⟨d0, d1, d2, d3, d4, d5⟩ := HHa.out.core.fields.cells
  go_wp2
  go_quiet (fail)
  obtain ⟨wb, hwb⟩ : ∃ wb, wb = wa.drewN nq := ⟨_, rfl⟩
  have HHb : Hid (Paged tg G bs q mp n p bufv (.slice (some ⟨g, 0, none⟩) n c0) wb) := by show Paged tg _ _ _ _ _ _ _ _ _; rw [hwb]; exact HHa.out.drewN nq
  have HFb : Hid (Fr (PFoot q p bufv (.slice (some ⟨g, 0, none⟩) n c0)) w wb) := by show Fr _ _ _; rw [hwb]; exact HFa.out.drewN nq
  have hcl : wb.cell? ⟨b, l, none⟩ = some (.float .f64 (nf (G i))) := by rw [hwb]; exact hcl'
  have hfl : wb.frozen? ⟨b, l, none⟩ = false := by rw [hwb]; exact hfl'
  rw [← hwb]
  clear hwb HHa HFa d0 d1 d2 d3 d4 d5 hc' hcl' hfl'
  obtain ⟨d0, d1, d2, d3, d4, d5⟩ := HHb.out.core.fields.cells
  go_wp2_with (go_at_call 312; (with_reducible refine (HLI _ d5).mono ?_); rintro e w' ⟨rfl, rfl⟩)
  go_end0
  refine ⟨addAt G i 1, bs, q, mp, n, bufv, _, rfl, HHb.out.addTo i 1 l HL.out HQ.out, both_addAt G bs i 1, .inl rfl, fun x => ?_, HFb.out.setCell (p := ⟨b, l, none⟩) (fun _ => .inr (.inr (.inr ⟨_, _, HQ.out⟩))) _, fun k hk => .inl hk⟩
  unfold addAt
  by_cases c : x = i
  · exact .inr c
  · rw [if_neg c]; exact .inl rfl
end Go.Proofs.YtnmbjalojgccmaaGreat
end
/-
  The store with pages: Add into the buffer. (Printed by gen_page7.py.)
-/
section
namespace Go.Proofs.YtnmbjalojgccmaaGreat
open Go.RowKit
variable {tg : Int}

theorem Paged.bufAfter {G : Int → Nat} {bs : List Int} {q : Int → Option (Nat × Nat)} {mp : Int} {n p : Nat} {bufv pgs : Value} {w : World} (h : Paged tg G bs q mp n p bufv pgs w) {o : Obj} {w2 : World} (hgr : (w.alloc o).grownBy w2 bufv.ownBlock) :
    PS w2 p bufv tg pgs mp ∧ Fr (fun k => bufv.ownBlock = some k) w w2 := by
  have hbp : bufv.ownBlock ≠ some p := fun e => by obtain ⟨_, hc⟩ := owns_tag h.core.buf e; exact tag_ne hc h.core.fields (by decide) rfl
  have hsz : (w.alloc o).heap.size = w.heap.size + 1 := by simp
  have hold : ∀ k, k < w.heap.size → bufv.ownBlock ≠ some k → w2.heap[k]? = w.heap[k]? := fun k hk hne => (hgr.block k (by omega) (fun e => hne e.symm)).trans (Below.heap_alloc w o k hk)
  exact ⟨(hold p h.core.fields.lt hbp).trans h.core.fields, hgr.os, hgr.tape, hgr.output, by have := hgr.size; omega, fun k hk hn => hold k hk hn⟩

set_option maxRecDepth 100000 in
set_option maxHeartbeats 800000 in
theorem addP2_any (G : Int → Nat) (bs : List Int) (q : Int → Option (Nat × Nat)) (mp : Int) (n p : Nat) (bufv pgs : Value) (i : Int) (w : World) (h : Paged tg G bs q mp n p bufv pgs w) (hq : q (i / 32) = none) (hlen : ((bs.length : Nat) : Int) < tg) (hlen2 : bs.length < 1000000000) (hi1 : -10000 ≤ i) (hi2 : i ≤ 10000) :
    Calls Tryz.prog 295 #[.pointer (some ⟨p, 0, none⟩), .int .i64 i] w fun e w' => AddedP tg G bs q p bufv pgs i 1 w e w' := by
  obtain ⟨ao, n1, cb, rfl⟩ := owns_slice h.core.buf
  obtain rfl := owns_len h.core.buf
  obtain ⟨pi, hpi⟩ : ∃ pi, pi = i / 32 := ⟨_, rfl⟩
  obtain ⟨d0, d1, d2, d3, d4, d5⟩ := h.core.fields.cells
  obtain ⟨aq, nq2, cq, hpgs⟩ := owns_slice h.core.row
  have hnq : nq2 = n := by have h2 := h.core.row; rw [hpgs] at h2; exact owns_len h2
  subst hnq
  rw [hpgs] at d2
  have hbd : (nq2 = 0 ∧ mp = 9223372036854775807) ∨ (0 < nq2 ∧ -330 ≤ mp ∧ mp + (nq2 : Int) ≤ 330) := by rcases h.bd with ⟨h1, h2, _⟩ | h2; exact .inl ⟨h1, h2⟩; exact .inr h2
  have HPI := fun w h4 => pageIndex_any p i w h4
  rw [← hpi] at HPI
  have hp1 : -320 ≤ pi := by omega
  have hp2 : pi ≤ 320 := by omega
  have hlen' : ¬ tg ≤ ((bs.length : Nat) : Int) := by omega
  have hl64 : decide (tg ≤ ((bs.length : Nat) : Int)) = false := by simpa using hlen'
  have hl63 : ((bs.length : Nat) : Int) < tg := by omega
  have HP := Lib.hid hpgs
  have HH := Lib.hid h
  have HQ : Hid (q pi = none) := by rw [hpi]; exact hq
  clear h hpgs hq hpi
  by_cases c1 : mp ≤ pi
  · have q1 : decide (mp ≤ pi) = true := by simpa using c1
    have hbd2 : 0 < nq2 ∧ -330 ≤ mp ∧ mp + (nq2 : Int) ≤ 330 := by omega
    have i1 : IntKind.i64.wrap (mp + (nq2 : Int)) = mp + (nq2 : Int) := by rw [IntKind.wrap_i64]; omega
    by_cases c2 : pi < mp + (nq2 : Int)
    · have q2 : decide (pi < mp + (nq2 : Int)) = true := by simpa using c2
      obtain ⟨g, c0, hg2, hgc, hcell⟩ := HH.out.rowAt hbd2.1
      rw [HP.out] at hg2
      cases hg2
      obtain ⟨j, hj⟩ : ∃ j : Nat, pi - mp = (j : Int) := ⟨(pi - mp).toNat, by omega⟩
      have i2 : IntKind.i64.wrap (pi - mp) = (j : Int) := by rw [IntKind.wrap_i64]; omega
      have hjn' : (j : Int) < (nq2 : Int) := by omega
      have hc := hcell j (by omega)
      rw [show mp + (j : Int) = pi from by omega, HQ.out] at hc
      replace hc : w.cell? ⟨g, j, none⟩ = some (.slice none 0 0) := hc
      clear hcell hj
      go_enter Tryz.func295, Tryz.ntmps295
      go_wp2_with (go_at_call 311; (with_reducible refine (HPI _ d4).mono ?_); rintro e w' ⟨rfl, rfl⟩)
      go_quiet (fail)
      obtain ⟨wa, hwa⟩ : ∃ wa, wa = w.drewN nq := ⟨_, rfl⟩
      have HHa : Hid (Paged tg G bs q mp nq2 p (.slice ao bs.length cb) pgs wa) := by show Paged tg _ _ _ _ _ _ _ _ _; rw [hwa]; exact HH.out.drewN nq
      have HFa : Hid (Fr (PFoot q p (.slice ao bs.length cb) pgs) w wa) := by show Fr _ _ _; rw [hwa]; exact (Fr.refl _ w).drewN nq
      have hc' : wa.cell? ⟨g, j, none⟩ = some (.slice none 0 0) := by rw [hwa]; exact hc
      rw [← hwa]
      clear hwa HH d0 d1 d2 d3 d4 d5 hc
      obtain ⟨d0, d1, d2, d3, d4, d5⟩ := HHa.out.core.fields.cells
      rw [HP.out] at d2
      go_wp2
      go_quiet (fail)
      obtain ⟨wc, hwc⟩ : ∃ wc, wc = wa.drewN nq := ⟨_, rfl⟩
      have HHc : Hid (Paged tg G bs q mp nq2 p (.slice ao bs.length cb) pgs wc) := by show Paged tg _ _ _ _ _ _ _ _ _; rw [hwc]; exact HHa.out.drewN nq
      have HFc : Hid (Fr (PFoot q p (.slice ao bs.length cb) pgs) w wc) := by show Fr _ _ _; rw [hwc]; exact HFa.out.drewN nq
      rw [← hwc]
      clear hwc HHa HFa d0 d1 d2 d3 d4 d5 hc'
      obtain ⟨wa, rfl⟩ : ∃ wa, wa = wc := ⟨_, rfl⟩
      have HHa := HHc
      have HFa := HFc
      clear HHc HFc
      obtain ⟨d0, d1, d2, d3, d4, d5⟩ := HHa.out.core.fields.cells
      rw [HP.out] at d2
      go_wp2
      by_cases hcap : bs.length = cb
      · subst hcap
        go_quiet (fail)
        obtain ⟨wb, hwb⟩ : ∃ wb, wb = wa.drewN nq := ⟨_, rfl⟩
        have HHb : Hid (Paged tg G bs q mp nq2 p (.slice ao bs.length bs.length) pgs wb) := by show Paged tg _ _ _ _ _ _ _ _ _; rw [hwb]; exact HHa.out.drewN nq
        have HFb : Hid (Fr (PFoot q p (.slice ao bs.length bs.length) pgs) w wb) := by show Fr _ _ _; rw [hwb]; exact HFa.out.drewN nq
        rw [← hwb]
        clear hwb HHa HFa d0 d1 d2 d3 d4 d5
        obtain ⟨d0, d1, d2, d3, d4, d5⟩ := HHb.out.core.fields.cells
        have ho1 := HHb.out.core.buf
        go_wp2_with (at_builtin; refine wpList_append_one wb (Value.int .i64 i) rfl _ _ 32 3 rfl (.int .i64 0) 8 Tryz.underlying32 Tryz.infoInt rfl rfl (.slice ao bs.length bs.length) bs.length (bs.map (Value.int .i64)) rfl ho1 rfl (by omega) (by decide) ?_; intro ao1 cp1 w2 hown2 hgrow hblk; have hPS := HHb.out.bufAfter hgrow; have e0 := hPS.1.cells.1; have e0f := hPS.1.free 0; have HO2 := Lib.hid hown2; have HGR := Lib.hid hgrow; have HBK := Lib.hid hblk; have HPF := Lib.hid hPS.2; clear hown2 hgrow hblk hPS ho1 d0 d1 d2 d3 d4 d5)
        go_end0
        refine ⟨G, bs ++ [i], q, mp, nq2, _, pgs, rfl, HHb.out.bufTo HO2.out HGR.out, both_snoc G bs i, .inr rfl, fun x => .inl rfl, ?_, fun k hk => ?_⟩
        · exact (HFb.out.trans HPF.out (fun _ _ h => h) (fun j _ h => .inr (.inl h))).setCell (p := ⟨p, 0, none⟩) (fun _ => .inl rfl) _
        · rcases hk with h | h | h
          · exact .inl (.inl h)
          · rcases HBK.out with h2 | h2
            · exact .inl (.inr (.inl (h2.symm.trans h)))
            · right
              rw [h2] at h
              have := Option.some.inj h
              have := HFb.out.size
              omega
          · exact .inl (.inr (.inr h))
      · have hcp1 : decide (((bs.length : Nat) : Int) = ((cb : Nat) : Int)) = false := by simp; omega
        have hcp2 : (((bs.length : Nat) : Int) == ((cb : Nat) : Int)) = false := by simp; omega
        have hcp3 : ¬ ((bs.length : Nat) : Int) = ((cb : Nat) : Int) := by omega
        have hcp4 : decide (bs.length = cb) = false := by simpa using hcap
        have hcp5 : (bs.length == cb) = false := by simpa using hcap
        go_quiet (fail)
        obtain ⟨wb, hwb⟩ : ∃ wb, wb = wa.drewN nq := ⟨_, rfl⟩
        have HHb : Hid (Paged tg G bs q mp nq2 p (.slice ao bs.length cb) pgs wb) := by show Paged tg _ _ _ _ _ _ _ _ _; rw [hwb]; exact HHa.out.drewN nq
        have HFb : Hid (Fr (PFoot q p (.slice ao bs.length cb) pgs) w wb) := by show Fr _ _ _; rw [hwb]; exact HFa.out.drewN nq
        rw [← hwb]
        clear hwb HHa HFa d0 d1 d2 d3 d4 d5
        obtain ⟨d0, d1, d2, d3, d4, d5⟩ := HHb.out.core.fields.cells
        have ho1 := HHb.out.core.buf
        go_wp2_with (at_builtin; refine wpList_append_one wb (Value.int .i64 i) rfl _ _ 32 3 rfl (.int .i64 0) 8 Tryz.underlying32 Tryz.infoInt rfl rfl (.slice ao bs.length cb) bs.length (bs.map (Value.int .i64)) rfl ho1 rfl (by omega) (by decide) ?_; intro ao1 cp1 w2 hown2 hgrow hblk; have hPS := HHb.out.bufAfter hgrow; have e0 := hPS.1.cells.1; have e0f := hPS.1.free 0; have HO2 := Lib.hid hown2; have HGR := Lib.hid hgrow; have HBK := Lib.hid hblk; have HPF := Lib.hid hPS.2; clear hown2 hgrow hblk hPS ho1 d0 d1 d2 d3 d4 d5)
        go_end0
        refine ⟨G, bs ++ [i], q, mp, nq2, _, pgs, rfl, HHb.out.bufTo HO2.out HGR.out, both_snoc G bs i, .inr rfl, fun x => .inl rfl, ?_, fun k hk => ?_⟩
        · exact (HFb.out.trans HPF.out (fun _ _ h => h) (fun j _ h => .inr (.inl h))).setCell (p := ⟨p, 0, none⟩) (fun _ => .inl rfl) _
        · rcases hk with h | h | h
          · exact .inl (.inl h)
          · rcases HBK.out with h2 | h2
            · exact .inl (.inr (.inl (h2.symm.trans h)))
            · right
              rw [h2] at h
              have := Option.some.inj h
              have := HFb.out.size
              omega
          · exact .inl (.inr (.inr h))
    · have q2 : decide (pi < mp + (nq2 : Int)) = false := by simpa using c2
      go_enter Tryz.func295, Tryz.ntmps295
      go_wp2_with (go_at_call 311; (with_reducible refine (HPI _ d4).mono ?_); rintro e w' ⟨rfl, rfl⟩)
      go_quiet (fail)
      obtain ⟨wa, hwa⟩ : ∃ wa, wa = w.drewN nq := ⟨_, rfl⟩
      have HHa : Hid (Paged tg G bs q mp nq2 p (.slice ao bs.length cb) pgs wa) := by show Paged tg _ _ _ _ _ _ _ _ _; rw [hwa]; exact HH.out.drewN nq
      have HFa : Hid (Fr (PFoot q p (.slice ao bs.length cb) pgs) w wa) := by show Fr _ _ _; rw [hwa]; exact (Fr.refl _ w).drewN nq
      rw [← hwa]
      clear hwa HH d0 d1 d2 d3 d4 d5
      obtain ⟨d0, d1, d2, d3, d4, d5⟩ := HHa.out.core.fields.cells
      rw [HP.out] at d2
      go_wp2
      by_cases hcap : bs.length = cb
      · subst hcap
        go_quiet (fail)
        obtain ⟨wb, hwb⟩ : ∃ wb, wb = wa.drewN nq := ⟨_, rfl⟩
        have HHb : Hid (Paged tg G bs q mp nq2 p (.slice ao bs.length bs.length) pgs wb) := by show Paged tg _ _ _ _ _ _ _ _ _; rw [hwb]; exact HHa.out.drewN nq
        have HFb : Hid (Fr (PFoot q p (.slice ao bs.length bs.length) pgs) w wb) := by show Fr _ _ _; rw [hwb]; exact HFa.out.drewN nq
        rw [← hwb]
        clear hwb HHa HFa d0 d1 d2 d3 d4 d5
        obtain ⟨d0, d1, d2, d3, d4, d5⟩ := HHb.out.core.fields.cells
        have ho1 := HHb.out.core.buf
        go_wp2_with (at_builtin; refine wpList_append_one wb (Value.int .i64 i) rfl _ _ 32 3 rfl (.int .i64 0) 8 Tryz.underlying32 Tryz.infoInt rfl rfl (.slice ao bs.length bs.length) bs.length (bs.map (Value.int .i64)) rfl ho1 rfl (by omega) (by decide) ?_; intro ao1 cp1 w2 hown2 hgrow hblk; have hPS := HHb.out.bufAfter hgrow; have e0 := hPS.1.cells.1; have e0f := hPS.1.free 0; have HO2 := Lib.hid hown2; have HGR := Lib.hid hgrow; have HBK := Lib.hid hblk; have HPF := Lib.hid hPS.2; clear hown2 hgrow hblk hPS ho1 d0 d1 d2 d3 d4 d5)
        go_end0
        refine ⟨G, bs ++ [i], q, mp, nq2, _, pgs, rfl, HHb.out.bufTo HO2.out HGR.out, both_snoc G bs i, .inr rfl, fun x => .inl rfl, ?_, fun k hk => ?_⟩
        · exact (HFb.out.trans HPF.out (fun _ _ h => h) (fun j _ h => .inr (.inl h))).setCell (p := ⟨p, 0, none⟩) (fun _ => .inl rfl) _
        · rcases hk with h | h | h
          · exact .inl (.inl h)
          · rcases HBK.out with h2 | h2
            · exact .inl (.inr (.inl (h2.symm.trans h)))
            · right
              rw [h2] at h
              have := Option.some.inj h
              have := HFb.out.size
              omega
          · exact .inl (.inr (.inr h))
      · have hcp1 : decide (((bs.length : Nat) : Int) = ((cb : Nat) : Int)) = false := by simp; omega
        have hcp2 : (((bs.length : Nat) : Int) == ((cb : Nat) : Int)) = false := by simp; omega
        have hcp3 : ¬ ((bs.length : Nat) : Int) = ((cb : Nat) : Int) := by omega
        have hcp4 : decide (bs.length = cb) = false := by simpa using hcap
        have hcp5 : (bs.length == cb) = false := by simpa using hcap
        go_quiet (fail)
        obtain ⟨wb, hwb⟩ : ∃ wb, wb = wa.drewN nq := ⟨_, rfl⟩
        have HHb : Hid (Paged tg G bs q mp nq2 p (.slice ao bs.length cb) pgs wb) := by show Paged tg _ _ _ _ _ _ _ _ _; rw [hwb]; exact HHa.out.drewN nq
        have HFb : Hid (Fr (PFoot q p (.slice ao bs.length cb) pgs) w wb) := by show Fr _ _ _; rw [hwb]; exact HFa.out.drewN nq
        rw [← hwb]
        clear hwb HHa HFa d0 d1 d2 d3 d4 d5
        obtain ⟨d0, d1, d2, d3, d4, d5⟩ := HHb.out.core.fields.cells
        have ho1 := HHb.out.core.buf
        go_wp2_with (at_builtin; refine wpList_append_one wb (Value.int .i64 i) rfl _ _ 32 3 rfl (.int .i64 0) 8 Tryz.underlying32 Tryz.infoInt rfl rfl (.slice ao bs.length cb) bs.length (bs.map (Value.int .i64)) rfl ho1 rfl (by omega) (by decide) ?_; intro ao1 cp1 w2 hown2 hgrow hblk; have hPS := HHb.out.bufAfter hgrow; have e0 := hPS.1.cells.1; have e0f := hPS.1.free 0; have HO2 := Lib.hid hown2; have HGR := Lib.hid hgrow; have HBK := Lib.hid hblk; have HPF := Lib.hid hPS.2; clear hown2 hgrow hblk hPS ho1 d0 d1 d2 d3 d4 d5)
        go_end0
        refine ⟨G, bs ++ [i], q, mp, nq2, _, pgs, rfl, HHb.out.bufTo HO2.out HGR.out, both_snoc G bs i, .inr rfl, fun x => .inl rfl, ?_, fun k hk => ?_⟩
        · exact (HFb.out.trans HPF.out (fun _ _ h => h) (fun j _ h => .inr (.inl h))).setCell (p := ⟨p, 0, none⟩) (fun _ => .inl rfl) _
        · rcases hk with h | h | h
          · exact .inl (.inl h)
          · rcases HBK.out with h2 | h2
            · exact .inl (.inr (.inl (h2.symm.trans h)))
            · right
              rw [h2] at h
              have := Option.some.inj h
              have := HFb.out.size
              omega
          · exact .inl (.inr (.inr h))
  · have q1 : decide (mp ≤ pi) = false := by simpa using c1
    go_enter Tryz.func295, Tryz.ntmps295
    go_wp2_with (go_at_call 311; (with_reducible refine (HPI _ d4).mono ?_); rintro e w' ⟨rfl, rfl⟩)
    go_quiet (fail)
    obtain ⟨wa, hwa⟩ : ∃ wa, wa = w.drewN nq := ⟨_, rfl⟩
    have HHa : Hid (Paged tg G bs q mp nq2 p (.slice ao bs.length cb) pgs wa) := by show Paged tg _ _ _ _ _ _ _ _ _; rw [hwa]; exact HH.out.drewN nq
    have HFa : Hid (Fr (PFoot q p (.slice ao bs.length cb) pgs) w wa) := by show Fr _ _ _; rw [hwa]; exact (Fr.refl _ w).drewN nq
    rw [← hwa]
    clear hwa HH d0 d1 d2 d3 d4 d5
    obtain ⟨d0, d1, d2, d3, d4, d5⟩ := HHa.out.core.fields.cells
    rw [HP.out] at d2
    go_wp2
    by_cases hcap : bs.length = cb
    · subst hcap
      go_quiet (fail)
      obtain ⟨wb, hwb⟩ : ∃ wb, wb = wa.drewN nq := ⟨_, rfl⟩
      have HHb : Hid (Paged tg G bs q mp nq2 p (.slice ao bs.length bs.length) pgs wb) := by show Paged tg _ _ _ _ _ _ _ _ _; rw [hwb]; exact HHa.out.drewN nq
      have HFb : Hid (Fr (PFoot q p (.slice ao bs.length bs.length) pgs) w wb) := by show Fr _ _ _; rw [hwb]; exact HFa.out.drewN nq
      rw [← hwb]
      clear hwb HHa HFa d0 d1 d2 d3 d4 d5
      obtain ⟨d0, d1, d2, d3, d4, d5⟩ := HHb.out.core.fields.cells
      have ho1 := HHb.out.core.buf
      go_wp2_with (at_builtin; refine wpList_append_one wb (Value.int .i64 i) rfl _ _ 32 3 rfl (.int .i64 0) 8 Tryz.underlying32 Tryz.infoInt rfl rfl (.slice ao bs.length bs.length) bs.length (bs.map (Value.int .i64)) rfl ho1 rfl (by omega) (by decide) ?_; intro ao1 cp1 w2 hown2 hgrow hblk; have hPS := HHb.out.bufAfter hgrow; have e0 := hPS.1.cells.1; have e0f := hPS.1.free 0; have HO2 := Lib.hid hown2; have HGR := Lib.hid hgrow; have HBK := Lib.hid hblk; have HPF := Lib.hid hPS.2; clear hown2 hgrow hblk hPS ho1 d0 d1 d2 d3 d4 d5)
      go_end0
      refine ⟨G, bs ++ [i], q, mp, nq2, _, pgs, rfl, HHb.out.bufTo HO2.out HGR.out, both_snoc G bs i, .inr rfl, fun x => .inl rfl, ?_, fun k hk => ?_⟩
      · exact (HFb.out.trans HPF.out (fun _ _ h => h) (fun j _ h => .inr (.inl h))).setCell (p := ⟨p, 0, none⟩) (fun _ => .inl rfl) _
      · rcases hk with h | h | h
        · exact .inl (.inl h)
        · rcases HBK.out with h2 | h2
          · exact .inl (.inr (.inl (h2.symm.trans h)))
          · right
            rw [h2] at h
            have := Option.some.inj h
            have := HFb.out.size
            omega
        · exact .inl (.inr (.inr h))
    · have hcp1 : decide (((bs.length : Nat) : Int) = ((cb : Nat) : Int)) = false := by simp; omega
      have hcp2 : (((bs.length : Nat) : Int) == ((cb : Nat) : Int)) = false := by simp; omega
      have hcp3 : ¬ ((bs.length : Nat) : Int) = ((cb : Nat) : Int) := by omega
      have hcp4 : decide (bs.length = cb) = false := by simpa using hcap
      have hcp5 : (bs.length == cb) = false := by simpa using hcap
      go_quiet (fail)
      obtain ⟨wb, hwb⟩ : ∃ wb, wb = wa.drewN nq := ⟨_, rfl⟩
      have HHb : Hid (Paged tg G bs q mp nq2 p (.slice ao bs.length cb) pgs wb) := by show Paged tg _ _ _ _ _ _ _ _ _; rw [hwb]; exact HHa.out.drewN nq
      have HFb : Hid (Fr (PFoot q p (.slice ao bs.length cb) pgs) w wb) := by show Fr _ _ _; rw [hwb]; exact HFa.out.drewN nq
      rw [← hwb]
      clear hwb HHa HFa d0 d1 d2 d3 d4 d5
      obtain ⟨d0, d1, d2, d3, d4, d5⟩ := HHb.out.core.fields.cells
      have ho1 := HHb.out.core.buf
      go_wp2_with (at_builtin; refine wpList_append_one wb (Value.int .i64 i) rfl _ _ 32 3 rfl (.int .i64 0) 8 Tryz.underlying32 Tryz.infoInt rfl rfl (.slice ao bs.length cb) bs.length (bs.map (Value.int .i64)) rfl ho1 rfl (by omega) (by decide) ?_; intro ao1 cp1 w2 hown2 hgrow hblk; have hPS := HHb.out.bufAfter hgrow; have e0 := hPS.1.cells.1; have e0f := hPS.1.free 0; have HO2 := Lib.hid hown2; have HGR := Lib.hid hgrow; have HBK := Lib.hid hblk; have HPF := Lib.hid hPS.2; clear hown2 hgrow hblk hPS ho1 d0 d1 d2 d3 d4 d5)
      go_end0
      refine ⟨G, bs ++ [i], q, mp, nq2, _, pgs, rfl, HHb.out.bufTo HO2.out HGR.out, both_snoc G bs i, .inr rfl, fun x => .inl rfl, ?_, fun k hk => ?_⟩
      · exact (HFb.out.trans HPF.out (fun _ _ h => h) (fun j _ h => .inr (.inl h))).setCell (p := ⟨p, 0, none⟩) (fun _ => .inl rfl) _
      · rcases hk with h | h | h
        · exact .inl (.inl h)
        · rcases HBK.out with h2 | h2
          · exact .inl (.inr (.inl (h2.symm.trans h)))
          · right
            rw [h2] at h
            have := Option.some.inj h
            have := HFb.out.size
            omega
        · exact .inl (.inr (.inr h))
end Go.Proofs.YtnmbjalojgccmaaGreat
end
