/-
  What is kept: its indices, its count, its least and its greatest index.
-/
import Derived.Test.YtnmbjalojgccmaaGreatQU
import Derived.Test.YtnmbjalojgccmaaGreatQYH
import Derived.Deep.RegionLaw
section
namespace Go.Proofs.YtnmbjalojgccmaaGreat
open Go.RowKit

theorem kept_inR {kind most : Int} (hk : knownB kind most = true) {xs : Bins} (h : InR xs) : InR (keptB kind most xs) := by
  unfold keptB lowB highB
  split
  · rename_i h3; subst h3
    obtain ⟨m, rfl, h1, h2⟩ := known3 hk
    split
    · intro p hp; cases hp
    · rename_i hne
      refine InR.summed (fun p hp => ?_)
      obtain ⟨q, hq, rfl⟩ := List.mem_map.1 hp
      have hb := h.summed q hq
      have hl : lastI (summed xs) ≤ 10000 := by
        obtain ⟨k, hk2⟩ : ∃ k, (summed xs).length = k + 1 := ⟨(summed xs).length - 1, by have := List.length_pos_iff.2 hne; omega⟩
        rw [lastI_get _ k hk2]
        exact (h.summed _ (List.getElem_mem _)).2
      show -10000 ≤ max q.1 _ ∧ max q.1 _ ≤ 10000
      omega
  · split
    · rename_i h4; subst h4
      obtain ⟨m, rfl, h1, h2⟩ := known4 hk
      split
      · intro p hp; cases hp
      · rename_i hne
        refine InR.summed (fun p hp => ?_)
        obtain ⟨q, hq, rfl⟩ := List.mem_map.1 hp
        have hb := h.summed q hq
        have hl : -10000 ≤ firstI (summed xs) := by
          rw [firstI_get _ (List.length_pos_iff.2 hne)]
          exact (h.summed _ (List.getElem_mem _)).1
        show -10000 ≤ min q.1 _ ∧ min q.1 _ ≤ 10000
        omega
    · exact h.summed
theorem kept_tot (kind most : Int) (xs : Bins) : tot (keptB kind most xs) = tot xs := by
  unfold keptB lowB highB
  split
  · split
    · rename_i h; rw [← summed_tot xs, h]
    · rw [summed_tot, lift_tot, summed_tot]
  · split
    · split
      · rename_i h; rw [← summed_tot xs, h]
      · rw [summed_tot, drop_tot, summed_tot]
    · rw [summed_tot]

theorem kept_len (kind most : Int) (xs : Bins) : (keptB kind most xs).length ≤ xs.length := by
  have h := summed_length xs
  unfold keptB lowB highB liftB dropB
  split
  · split
    · exact Nat.zero_le _
    · refine Nat.le_trans (summed_length _) ?_
      rw [List.length_map]; exact h
  · split
    · split
      · exact Nat.zero_le _
      · refine Nat.le_trans (summed_length _) ?_
        rw [List.length_map]; exact h
    · exact h

theorem cnt_first {K : Bins} (ha : Asc K) (hp : Pos K) (hn : K ≠ []) : 0 < cntB K (firstI K) ∧ ∀ i, i < firstI K → cntB K i = 0 := by
  have hl : 0 < K.length := List.length_pos_iff.2 hn
  rw [firstI_get K hl]
  refine ⟨cnt_pos_mem ha hp _ (List.getElem_mem _), fun i hi => cntB_none (fun p hpm e => ?_)⟩
  obtain ⟨j, hj, rfl⟩ := List.getElem_of_mem hpm
  by_cases hj0 : j = 0
  · subst hj0; omega
  · have := asc_lt ha (j := 0) (k := j) hl hj (by omega)
    omega
theorem cnt_last {K : Bins} (ha : Asc K) (hp : Pos K) (hn : K ≠ []) : 0 < cntB K (lastI K) ∧ ∀ i, lastI K < i → cntB K i = 0 := by
  have hl : 0 < K.length := List.length_pos_iff.2 hn
  obtain ⟨k, hk⟩ : ∃ k, K.length = k + 1 := ⟨K.length - 1, by omega⟩
  rw [lastI_get K k hk]
  refine ⟨cnt_pos_mem ha hp _ (List.getElem_mem _), fun i hi => cntB_none (fun p hpm e => ?_)⟩
  obtain ⟨j, hj, rfl⟩ := List.getElem_of_mem hpm
  by_cases hjk : j = k
  · subst hjk; omega
  · have := asc_lt ha (j := j) (k := k) hj (by omega) (by omega)
    omega
end Go.Proofs.YtnmbjalojgccmaaGreat
end
/-
  impl.filled, for every kind of store.
-/
section
namespace Go.Proofs.YtnmbjalojgccmaaGreat
open Go.RowKit

def FillRel {kind : Int} (K : StoreKind kind) (most : Int) (xs : Bins) (p : Nat) (w wr : World) (i : Value) : Prop :=
  ∃ (k : Nat) (S : Nat → Prop), k ≤ xs.length ∧ i = .int .i64 (k : Int) ∧ K.St most (xs.take k) S p wr ∧ (∀ b, S b → w.heap.size ≤ b) ∧ Below w.heap.size w wr

theorem inR_take {xs : Bins} (h : InR xs) (k : Nat) : InR (xs.take k) := fun p hp => h p (List.mem_of_mem_take hp)
theorem pos_take {xs : Bins} (h : Pos xs) (k : Nat) : Pos (xs.take k) := fun p hp => h p (List.mem_of_mem_take hp)

set_option maxRecDepth 100000 in
set_option maxHeartbeats 400000 in
theorem filled_any {kind : Int} (K : StoreKind kind) (most : Int) (ao : Option Addr) (cp : Nat) (xs : Bins) (w : World) (hk : knownB kind most = true) (hl : Lie2 w ao (fb xs)) (hr : InR xs) (hp : Pos xs) (ht : tot xs < 1000000000) (hn : xs.length ≤ 60) :
    Calls Tryz.prog 35 #[.int .i64 kind, .int .i64 most, .slice ao xs.length cp] w fun e w' => ∃ p S, e = .returned (.iface K.T (.pointer (some ⟨p, 0, none⟩))) ∧ K.St most xs S p w' ∧ (∀ b, S b → w.heap.size ≤ b) ∧ Below w.heap.size w w' := by
  have HN := K.new most w hk
  have HL := Lib.hid hl
  have HR := Lib.hid hr
  have HP := Lib.hid hp
  have HT := Lib.hid ht
  have HK := Lib.hid hk
  clear hl hr hp ht hk
  go_enter Tryz.func35, Tryz.ntmps35
  go_wp2_with (go_at_call 53; (with_reducible refine HN.mono ?_); rintro e w1 ⟨p, S, rfl, hst, hS, hf⟩; have HST := Lib.hid hst; have HS := Lib.hid hS; have HF := Lib.hid hf; clear hst hS hf HN)
  have HB1 : Hid (Below w.heap.size w w1) := (HF.out.below (fun _ h => h.elim) (Nat.le_refl _))
  go_loopw [15] (fun i wr => FillRel K most xs p w wr i) (fun i _ => xs.length - (intOf i).toNat)
  case atStart => exact ⟨0, S, Nat.zero_le _, rfl, by rw [List.take_zero]; exact HST.out, HS.out, HB1.out⟩
  case round =>
    obtain ⟨k, S, hk, rfl, hst, hS, hb⟩ := hrel
    by_cases hlt : k < xs.length
    · rcases HL.out.later hb with h0 | ⟨g, off, rfl, hcell⟩
      · have := congrArg List.length h0; rw [fb_length, List.length_nil] at this; omega
      obtain ⟨c0, c1⟩ := hcell k (by rw [fb_length]; exact hlt)
      rw [fb_get] at c0 c1
      dsimp only at c0 c1
      have hz := hb.size
      have hin := HR.out xs[k] (List.getElem_mem hlt)
      have hpos := HP.out xs[k] (List.getElem_mem hlt)
      have hts := tot_succ xs k hlt
      have htk := tot_take xs (k + 1)
      have hlk : (xs.take k).length = k := by rw [List.length_take]; omega
      have hst2 : K.St most (xs.take k) S p (wr.alloc (.cells #[.int .i64 xs[k].1, .float .f64 (nf xs[k].2)] 62)) := K.fr most (xs.take k) S p (fun _ => False) wr _ hst ((Fr.refl _ wr).alloc _) (fun _ _ h => h)
      have HA := K.add most (xs.take k) S p xs[k].1 xs[k].2 (wr.alloc (.cells #[.int .i64 xs[k].1, .float .f64 (nf xs[k].2)] 62)) HK.out hst2 (inR_take HR.out k) (pos_take HP.out k) (by have := HT.out; omega) (by omega) hin.1 hin.2 hpos
      have hM := K.mAdd p
      have hE := K.eAdd
      have htk2 : xs.take k ++ [(xs[k].1, xs[k].2)] = xs.take (k + 1) := by rw [List.take_succ_eq_append_getElem hlt]
      rw [htk2] at HA
      obtain ⟨x, hx⟩ : ∃ x, x = xs[k].1 := ⟨_, rfl⟩
      obtain ⟨b, hbb⟩ : ∃ b, b = nf xs[k].2 := ⟨_, rfl⟩
      rw [← hx] at c0 HA
      rw [← hbb] at c1 HA
      have HS0 := Lib.hid hS
      have HB := Lib.hid hb
      have HZ := Lib.hid hz
      clear hx hbb hcell hin hpos hts htk hlk hst hst2 htk2 hS hb hz
      go_wp2_with (go_at_fn K.fAdd; (with_reducible refine HA.mono ?_); rintro e w2 ⟨rfl, S', hs', hf', hS'⟩; have HS1 := Lib.hid hs'; have HF1 := Lib.hid hf'; have HS2 := Lib.hid hS'; clear hs' hf' hS' HA)
      go_roundw
      case rel =>
        have hal : (wr.alloc (.cells #[.int .i64 x, .float .f64 b] 62)).heap.size = wr.heap.size + 1 := by simp
        refine ⟨k + 1, S', by omega, by go_num, HS1.out, fun b hb => ?_, ?_⟩
        · rcases HS2.out b hb with h | h
          · exact HS0.out b h
          · have := HZ.out; omega
        · exact (HB.out.alloc HZ.out _).trans (HF1.out.below (fun b hb => HS0.out b hb) (by have := HZ.out; omega))
      case measure => simp [intOf]; omega
    · obtain rfl : k = xs.length := by omega
      rw [List.take_length] at hst
      have HST2 := Lib.hid hst
      have HS2 := Lib.hid hS
      have HB2 := Lib.hid hb
      clear hlt hst hS hb
      go_wp2
      go_ret
      exact ⟨p, S, rfl, HST2.out, HS2.out, HB2.out⟩
end Go.Proofs.YtnmbjalojgccmaaGreat
end
/-
  impl.Ranks: the closure that asks a store for ranks.
-/
section
namespace Go.Proofs.YtnmbjalojgccmaaGreat
open Go.RowKit

section
variable {P : Program}
/-- append(s, x) of one cell, in a region that draws. -/
theorem wp_append_one (w : World) (u : Value) {o : Oper} {a : Act} {K : Act → World → Prop} {Q : Exit → Act → World → Prop} (s x : Operand) (tS tE : TypeId)
    (ho : o.op = .call { callee := .builtin .append, args := #[s, x], argTypes := #[tS, tS] })
    (z : Value) (bytes : Nat) (ht : P.underlying tS = some (.slice tE)) (hinfo : (P.info? tE).map (fun i => (i.zero, i.size, i.bytes)) = some (some z, 1, bytes)) (hz : z.cells.size = 1) (hu : u.oneCell' = true)
    (v : Value) (n : Nat) (xs : List Value) (hs : a.eval s = v) (hown : w.ownsRow 0 tE 1 v n xs) (hx : a.eval x = .slice (some ⟨w.heap.size, 0, none⟩) 1 1) (hn : n < 1000000000000) (hby : bytes ≤ 32)
    (h : ∀ ao cp w1, w1.ownsRow 0 tE 1 (.slice ao (n + 1) cp) (n + 1) (xs ++ [u]) → (w.alloc (.cells #[u] tE)).grownBy w1 v.ownBlock →
      ((Value.slice ao (n + 1) cp).ownBlock = v.ownBlock ∨ (Value.slice ao (n + 1) cp).ownBlock = some (w.heap.size + 1)) → K (a.put o.dst (.slice ao (n + 1) cp)) w1) : o.wp P a (w.alloc (.cells #[u] tE)) K Q := by
  obtain ⟨i0, hi, hz0, hz1, hz2⟩ := info_parts hinfo
  refine wp_append_own2 _ s x tS ho tE i0 z 1 bytes ht hi hz0 hz1 hz2 hz (by decide) v n xs hs (hown.alloc _) ⟨w.heap.size, 0, none⟩ 1 1 [u] hx rfl (cell_one_new _ _ _) ?_ ?_ ?_ ?_
  · intro u' hu'; simp at hu'; subst hu'; exact hu
  · unfold maxLen; omega
  · have : (n + 1) * bytes ≤ (n + 1) * 32 := Nat.mul_le_mul_left _ hby
    omega
  · intro v' w1 h1 h2 h3
    obtain ⟨ao, n1, cp, rfl⟩ := owns_slice h1
    obtain rfl := owns_len h1
    exact h ao cp w1 h1 h2 (by simpa using h3)
end

/-- A list of floats lies there. -/
def LieF (w : World) (ar : Option Addr) (rs : List Nat) : Prop :=
  rs = [] ∨ ∃ g off, ar = some ⟨g, off, none⟩ ∧ ∀ i, (h : i < rs.length) → w.cell? ⟨g, off + i, none⟩ = some (.float .f64 rs[i])
theorem LieF.fr {w w' : World} {ar : Option Addr} {rs : List Nat} {S : Nat → Prop} (h : LieF w ar rs) (hf : Fr S w w') (hn : ∀ g off, ar = some ⟨g, off, none⟩ → ¬ S g) : LieF w' ar rs := by
  rcases h with h | ⟨g, off, rfl, h⟩
  · exact .inl h
  · exact .inr ⟨g, off, rfl, fun i hi => hf.cell (h i hi) (hn g off rfl)⟩

/-- A box with a slice of ints that owns its row. -/
def KeysBox (w : World) (bk : Nat) (v : Value) (ks : List Int) : Prop :=
  w.heap[bk]? = some (.cells #[v] 32 (0, 0)) ∧ w.ownsRow 0 3 1 v ks.length (ks.map (Value.int .i64))

theorem KeysBox.fr {w w' : World} {bk : Nat} {v : Value} {ks : List Int} {S : Nat → Prop} (h : KeysBox w bk v ks) (hf : Fr S w w') (hb : ¬ S bk) (ho : ∀ b, v.ownBlock = some b → ¬ S b) : KeysBox w' bk v ks := ⟨hf.heap h.1 hb, hf.owns h.2 ho⟩
theorem KeysBox.ne {w : World} {bk : Nat} {v : Value} {ks : List Int} (h : KeysBox w bk v ks) : ∀ b, v.ownBlock = some b → b ≠ bk := fun b hb => by
  obtain ⟨_, hc⟩ := owns_tag h.2 hb; exact tag_ne hc h.1 (by decide)

/-- One more key, put into the box. -/
theorem KeysBox.push {w w3 : World} {bk : Nat} {v v' : Value} {ks : List Int} {z : Int} {o : Obj} (h : KeysBox w bk v ks) (hown : w3.ownsRow 0 3 1 v' (ks.length + 1) (ks.map (Value.int .i64) ++ [Value.int .i64 z])) (hgr : (w.alloc o).grownBy w3 v.ownBlock)
   (hblk : v'.ownBlock = v.ownBlock ∨ v'.ownBlock = some (w.heap.size + 1)) :
    w3.cell? ⟨bk, 0, none⟩ = some v ∧ w3.frozen? ⟨bk, 0, none⟩ = false ∧ KeysBox (w3.setCell ⟨bk, 0, none⟩ v') bk v' (ks ++ [z]) ∧ Fr (fun b => b = bk ∨ v.ownBlock = some b) w (w3.setCell ⟨bk, 0, none⟩ v') := by
  have hsz : (w.alloc o).heap.size = w.heap.size + 1 := by simp
  have hbl : bk < w.heap.size := lt_of_block h.1
  have hold : ∀ k, k < w.heap.size → v.ownBlock ≠ some k → w3.heap[k]? = w.heap[k]? := fun k hk hne => (hgr.block k (by omega) (fun e => hne e.symm)).trans (Below.heap_alloc w o k hk)
  have hb3 : w3.heap[bk]? = some (.cells #[v] 32 (0, 0)) := (hold bk hbl (fun e => h.ne bk e rfl)).trans h.1
  have hfr : Fr (fun b => b = bk ∨ v.ownBlock = some b) w w3 := ⟨hgr.os, hgr.tape, hgr.output, by have := hgr.size; omega, fun k hk hn => hold k hk (fun e => hn (.inr e))⟩
  refine ⟨cell_of_row _ _ 0 _ _ _ hb3, frozen_of_row w3 bk 0 _ _ hb3, ⟨(heap_setCell_same w3 bk 0 _ _ v' hb3).trans rfl, ?_⟩, hfr.setCell (p := ⟨bk, 0, none⟩) (fun _ => .inl rfl) v'⟩
  rw [List.length_append, List.map_append]
  refine ownsRow_setCell_other hown (fun e => ?_) _
  rcases hblk with h2 | h2
  · exact h.ne bk (h2.symm.trans e) rfl
  · rw [h2] at e
    have := Option.some.inj e
    have : bk = w.heap.size + 1 := this.symm
    omega

/-- A rank that is compared. -/
def RankOk (t r : Nat) : Prop := (FloatKind.f64.format.order r 0 == some .lt) = false ∧ fgt2 (nf 0) r = false ∧ fgt2 (nf t) r = true

def RankRel {kind : Int} (K : StoreKind kind) (most : Int) (xs : Bins) (rs : List Nat) (p bk : Nat) (w wr : World) (i : Value) : Prop :=
  ∃ (k : Nat) (S : Nat → Prop) (ao : Option Addr) (cr : Nat), k ≤ rs.length ∧ i = .int .i64 (k : Int) ∧ K.St most xs S p wr ∧ (∀ b, S b → w.heap.size ≤ b) ∧
    KeysBox wr bk (.slice ao k cr) ((rs.take k).map fun r => keyF r 0 (keptB kind most xs)) ∧ (∀ b, (Value.slice ao k cr).ownBlock = some b → w.heap.size ≤ b ∧ ¬ S b) ∧ Fr (fun b => b = bk) w wr

set_option maxRecDepth 100000 in
set_option maxHeartbeats 1000000 in
theorem ranks1_any {kind : Int} (K : StoreKind kind) (most : Int) (ao : Option Addr) (cp : Nat) (xs : Bins) (ar : Option Addr) (cr : Nat) (rs : List Nat) (b0 b1 b2 b3 bk : Nat) (w : World) (hk : knownB kind most = true) (hl : Lie2 w ao (fb xs)) (hr : InR xs) (hp : Pos xs) (ht : tot xs < 1000000000) (hn : xs.length ≤ 60)
   (h0 : w.cell? ⟨b0, 0, none⟩ = some (.int .i64 kind)) (h1 : w.cell? ⟨b1, 0, none⟩ = some (.int .i64 most)) (h2 : w.cell? ⟨b2, 0, none⟩ = some (.slice ao xs.length cp)) (h3 : w.cell? ⟨b3, 0, none⟩ = some (.slice ar rs.length cr))
   (hrs : LieF w ar rs) (hag : 0 < rs.length → ∀ g off, ar = some ⟨g, off, none⟩ → g < w.heap.size ∧ g ≠ bk) (hrn : rs.length ≤ 2147483647) (hok : ∀ r ∈ rs, RankOk (tot xs) r) (hbk : w.heap[bk]? = some (.cells #[.slice none 0 0] 32 (0, 0))) (hb3 : b3 ≠ bk) :
    Calls Tryz.prog 34 #[.pointer (some ⟨b0, 0, none⟩), .pointer (some ⟨b1, 0, none⟩), .pointer (some ⟨b2, 0, none⟩), .pointer (some ⟨b3, 0, none⟩), .pointer (some ⟨bk, 0, none⟩)] w fun e w' => e = .returned (.tuple #[]) ∧
      ∃ ao' cr', KeysBox w' bk (.slice ao' rs.length cr') (rs.map fun r => keyF r 0 (keptB kind most xs)) ∧ Fr (fun b => b = bk) w w' := by
  have HF := filled_any K most ao cp xs w hk hl hr hp ht hn
  have hlt3 : b3 < w.heap.size := World.block_lt_of_cell? w _ h3
  have hltk : bk < w.heap.size := lt_of_block hbk
  have hkey : ∀ r ∈ rs, KeyIs (cntB (keptB kind most xs)) r (keyF r 0 (keptB kind most xs)) := fun r hr2 => by
    obtain ⟨_, g1, g2⟩ := hok r hr2
    have hne : keptB kind most xs ≠ [] := fun e => by
      have := kept_tot kind most xs
      rw [e] at this
      rw [← this, show tot [] = 0 from rfl, g1] at g2; cases g2
    exact keyF_is (kept_asc kind most xs) (kept_inR hk hr) r g1 (by rw [kept_tot]; exact g2) hne
  have HKEY := Lib.hid hkey
  have HOK := Lib.hid hok
  have HR := Lib.hid hr
  have HP := Lib.hid hp
  have HT := Lib.hid ht
  have HK := Lib.hid hk
  have HRS := Lib.hid hrs
  have HAG := Lib.hid hag
  have HBK := Lib.hid hbk
  have H3 := Lib.hid h3
  clear hkey hok hr hp ht hk hrs hag hbk hl
  go_enter Tryz.func34, Tryz.ntmps34
  go_wp2_with fail
  refine HF.mono ?_
  rintro e w1 ⟨p, S, rfl, hst, hS, hb⟩
  have h31 : w1.cell? ⟨b3, 0, none⟩ = some (.slice ar rs.length cr) := (hb.cell hlt3).trans h3
  have HST := Lib.hid hst
  have HS := Lib.hid hS
  have HB := Lib.hid hb
  clear hst hS hb HF h0 h1 h2 h3
  have HFR1 : Hid (Fr (fun b => b = bk) w w1) := ((Fr.of_below HB.out).mono (fun i hi h => absurd h (Nat.not_le.2 hi)))
  have HB1 : Hid (w1.heap[bk]? = some (.cells #[.slice none 0 0] 32 (0, 0))) := (HB.out.5 bk hltk).trans HBK.out
  clear HB
  go_wp2
  clear h31
  go_loopw [14] (fun i wr => RankRel K most xs rs p bk w wr i) (fun i _ => rs.length - (intOf i).toNat)
  case atStart => exact ⟨0, S, none, 0, Nat.zero_le _, rfl, HST.out, HS.out, ⟨HB1.out, World.ownsRow_nil _ _ _ _⟩, (fun b hb => by simp [Value.ownBlock] at hb), HFR1.out⟩
  case round =>
    obtain ⟨k, S, ao1, cr1, hk, rfl, hst, hS, hbx, hob, hfr⟩ := hrel
    have cb3 := hfr.cell H3.out (show ¬ b3 = bk from hb3)
    by_cases hlt : k < rs.length
    · rcases HRS.out with h0 | ⟨g, off, rfl, hcell⟩
      · rw [h0] at hlt; simp at hlt
      have hag := HAG.out (by omega) g off rfl
      have c0 := hfr.cell (hcell k hlt) (show ¬ g = bk from hag.2)
      have hltI : (k : Int) < ((rs.length : Nat) : Int) := by omega
      have i1 : IntKind.i64.wrap ((k : Int) + 1) = (k : Int) + 1 := by rw [IntKind.wrap_i64]; omega
      have hrm := List.getElem_mem hlt
      obtain ⟨o1, o2, o3⟩ := HOK.out rs[k] hrm
      have HC := K.key most xs S p rs[k] wr.drew HK.out (K.fr most xs S p (fun _ => False) wr _ hst ((Fr.refl _ wr).drew) (fun _ _ h => h)) HR.out HP.out HT.out hn o1 o2 o3
      have HKU : Hid (∀ z, KeyIs (cntB (keptB kind most xs)) rs[k] z → z = keyF rs[k] 0 (keptB kind most xs)) := fun z hz => hz.unique (HKEY.out rs[k] hrm)
      have hM := K.mKey p
      have hE := K.eKey
      have cbk := cell_of_row _ _ 0 _ _ _ hbx.1
      have hks : (((rs.take k).map fun r => keyF r 0 (keptB kind most xs)).length) = k := by rw [List.length_map, List.length_take]; omega
      have HKS := Lib.hid hks
      have htk : (rs.take (k + 1)).map (fun r => keyF r 0 (keptB kind most xs)) = ((rs.take k).map fun r => keyF r 0 (keptB kind most xs)) ++ [keyF rs[k] 0 (keptB kind most xs)] := by rw [List.take_succ_eq_append_getElem hlt, List.map_append]; rfl
      have HTK := Lib.hid htk
      obtain ⟨r, hr⟩ : ∃ r, r = rs[k] := ⟨_, rfl⟩
      rw [← hr] at c0 HC HKU HTK
      obtain ⟨ks, hkse⟩ : ∃ ks, ks = (rs.take k).map fun r => keyF r 0 (keptB kind most xs) := ⟨_, rfl⟩
      rw [← hkse] at hbx HKS HTK
      have HBX := Lib.hid hbx
      have HST2 := Lib.hid hst
      have HS2 := Lib.hid hS
      have HOB := Lib.hid hob
      have HFR := Lib.hid hfr
      clear hr hkse hcell hrm o1 o2 o3 hks htk hbx hst hS hob hfr
      have hltw : bk < w.heap.size := hltk
      go_wp2
      go_region_law (first | (go_simp; go_at_fn K.fKey; (with_reducible refine HC.mono ?_); rintro e w2 ⟨⟨z, rfl, hz⟩, S', hs', hf', hS'⟩; have hbx2 : KeysBox w2 bk (.slice ao1 k cr1) ks := (KeysBox.fr (w := wr.drew) ⟨HBX.out.1, HBX.out.2⟩ hf' (fun h => by have := HS2.out bk h; omega) (fun b hb => (HOB.out b hb).2)); have ck2 := cell_of_row _ _ 0 _ _ _ hbx2.1; have ck2a : (w2.alloc (.cells #[Value.int .i64 z] 3)).cell? ⟨bk, 0, none⟩ = some (.slice ao1 k cr1) := cell_of_row _ _ 0 _ _ _ ((Below.heap_alloc w2 (.cells #[Value.int .i64 z] 3) bk (lt_of_block hbx2.1)).trans hbx2.1); have HBX2 := Lib.hid hbx2; have HS3 := Lib.hid hs'; have HF3 := Lib.hid hf'; have HS4 := Lib.hid hS'; have HZ := Lib.hid (HKU.out z hz); clear hbx2 hs' hf' hS' hz) | (rw [if_pos (by rfl)]; refine wp_append_one w2 (Value.int .i64 z) _ _ 32 3 rfl (.int .i64 0) 8 Tryz.underlying32 Tryz.infoInt rfl rfl (.slice ao1 k cr1) k (ks.map (Value.int .i64)) rfl (by have h9 := HBX2.out.2; rw [HKS.out] at h9; exact h9) rfl (by omega) (by decide) ?_; intro ao2 cp2 w3 hown3 hgrow hblk; have hpush := HBX2.out.push (z := z) (by rw [HKS.out]; exact hown3) hgrow hblk; have ck3 := hpush.1; have fk3 := hpush.2.1; have HPU := Lib.hid hpush.2.2; have HBL := Lib.hid hblk; clear hpush hown3 hgrow hblk))
      all_goals
        go_wp2
        go_roundw
        case rel =>
          have hsz2 := HF3.out.size
          have hdr : wr.drew.heap.size = wr.heap.size := rfl
          have hwz := HFR.out.size
          have hltS : ∀ b, S' b → w.heap.size ≤ b := fun b hb => by
            rcases HS4.out b hb with h | h
            · exact HS2.out b h
            · omega
          have hown : ∀ b, (Value.slice ao1 k cr1).ownBlock = some b → ¬ S' b := fun b hb h => by
            rcases HS4.out b h with h2 | h2
            · exact (HOB.out b hb).2 h2
            · have := (HBX.out.2.lt b hb).2
              omega
          refine ⟨k + 1, S', ao2, cp2, by omega, by go_num, K.fr most xs S' p _ w2 _ HS3.out HPU.out.2 (fun b hb h => ?_), hltS, ?_, fun b hb => ?_, ?_⟩
          · rcases h with h | h
            · have := hltS b hb; omega
            · exact hown b h hb
          · rw [HTK.out, ← HZ.out]; exact HPU.out.1
          · rcases HBL.out with h | h
            · have h2 : (Value.slice ao1 k cr1).ownBlock = some b := by rw [← h]; exact hb
              exact ⟨(HOB.out b h2).1, hown b h2⟩
            · have h2 : some b = some (w2.heap.size + 1) := by rw [← h]; exact hb.symm
              have h3 := Option.some.inj h2
              refine ⟨by omega, fun h4 => ?_⟩
              have := K.lt most xs S' p w2 HS3.out b h4
              omega
          · refine ((HFR.out.drew.trans HF3.out (fun _ _ h => h) (fun i hi h => absurd hi (Nat.not_lt.2 (HS2.out i h)))).trans HPU.out.2 (fun _ _ h => h) (fun i hi h => ?_))
            rcases h with h | h
            · exact h
            · have := (HOB.out i h).1; omega
        case measure => simp [intOf]; omega
    · obtain rfl : k = rs.length := by omega
      have HBX := Lib.hid hbx
      have HFR := Lib.hid hfr
      clear hlt hbx hfr hst hS hob
      go_wp2
      go_end0
      refine ⟨rfl, ao1, cr1, ?_, HFR.out⟩
      have h9 := HBX.out
      rw [List.take_length] at h9
      exact h9
end Go.Proofs.YtnmbjalojgccmaaGreat
end
