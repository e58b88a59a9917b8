/-
  impl.Map's closure: what a mapping tells of the values of a list.
-/
import Derived.Test.YtgommnmmifgbgaaGAE
import Derived.Deep.RegionLaw
import Derived.Shelf.Abstract
section
namespace Go.Proofs.Ytgommnmmifgbgaa
open Go.RowKit

theorem Try.infoTold : (Try.prog.info? 31).map (fun i => (i.zero, i.size, i.bytes)) = some (some (.agg #[.int .i64 0, .float .f64 0, .float .f64 0, .float .f64 0]), 4, 32) := by kernel_rfl

/-- What is told of a value. -/
structure ToldV where
  i : Int
  v : Nat
  l : Nat
  u : Nat

/-- The cells of a list of what is told. -/
def tc (ts : List ToldV) : List Value := ts.flatMap fun t => [.int .i64 t.i, .float .f64 t.v, .float .f64 t.l, .float .f64 t.u]
theorem tc_append (xs ys : List ToldV) : tc (xs ++ ys) = tc xs ++ tc ys := by unfold tc; exact List.flatMap_append
theorem tc_one (ts : List ToldV) : ∀ u ∈ tc ts, u.oneCell' = true := by
  intro u hu
  unfold tc at hu
  rw [List.mem_flatMap] at hu
  obtain ⟨t, -, h⟩ := hu
  simp only [List.mem_cons, List.not_mem_nil, or_false] at h
  rcases h with rfl | rfl | rfl | rfl <;> rfl

section
variable {P : Program}
/-- append(s, x) of one such element, in a region that draws. -/
theorem wp_append_told (w : World) (B : Nat) (hB : w.heap.size = B) (i : Int) (b0 b1 b2 : Nat) {o : Oper} {a : Act} {K : Act → World → Prop} {Q : Exit → Act → World → Prop} (s x : Operand) (tS tE : TypeId)
    (ho : o.op = .call { callee := .builtin .append, args := #[s, x], argTypes := #[tS, tS] })
    (z : Value) (bytes : Nat) (ht : P.underlying tS = some (.slice tE)) (hinfo : (P.info? tE).map (fun i => (i.zero, i.size, i.bytes)) = some (some z, 4, bytes)) (hz : z.cells.size = 4)
    (v : Value) (n : Nat) (ps : List ToldV) (hs : a.eval s = v) (hown : w.ownsRow 0 tE 4 v n (tc ps)) (hx : a.eval x = .slice (some ⟨B, 0, none⟩) 1 1) (hn : n < 1000000000000) (hby : bytes ≤ 32)
    (h : ∀ ao cp w1, w1.ownsRow 0 tE 4 (.slice ao (n + 1) cp) (n + 1) (tc (ps ++ [⟨i, b0, b1, b2⟩])) → (w.alloc (.cells #[.int .i64 i, .float .f64 b0, .float .f64 b1, .float .f64 b2] tE)).grownBy w1 v.ownBlock →
      ((Value.slice ao (n + 1) cp).ownBlock = v.ownBlock ∨ (Value.slice ao (n + 1) cp).ownBlock = some (B + 1)) → K (a.put o.dst (.slice ao (n + 1) cp)) w1) : o.wp P a (w.alloc (.cells #[.int .i64 i, .float .f64 b0, .float .f64 b1, .float .f64 b2] tE)) K Q := by
  subst hB
  obtain ⟨i0, hi, hz0, hz1, hz2⟩ := info_parts hinfo
  have hnew : ∀ j u, (tc [⟨i, b0, b1, b2⟩])[j]? = some u → (w.alloc (.cells #[.int .i64 i, .float .f64 b0, .float .f64 b1, .float .f64 b2] tE)).cell? ((⟨w.heap.size, 0, none⟩ : Addr).add j) = some u := by
    intro j u hj
    have hadd : (⟨w.heap.size, 0, none⟩ : Addr).add j = ⟨w.heap.size, 0 + j, none⟩ := by unfold Addr.add; split <;> simp_all
    rw [hadd, cell_of_row _ _ _ _ _ _ (heap_alloc_new w (.cells #[.int .i64 i, .float .f64 b0, .float .f64 b1, .float .f64 b2] tE))]
    simpa [tc] using hj
  refine wp_append_own2 _ s x tS ho tE i0 z 4 bytes ht hi hz0 hz1 hz2 hz (by decide) v n (tc ps) hs (hown.alloc _) ⟨w.heap.size, 0, none⟩ 1 1 (tc [⟨i, b0, b1, b2⟩]) hx rfl hnew (tc_one _) ?_ ?_ ?_
  · unfold maxLen; omega
  · have : (n + 1) * bytes ≤ (n + 1) * 32 := Nat.mul_le_mul_left _ hby
    omega
  · intro v' w1 h1 h2 h3
    rw [← tc_append] at h1
    obtain ⟨ao, n1, cp, rfl⟩ := owns_slice h1
    obtain rfl := owns_len h1
    exact h ao cp w1 h1 h2 (by simpa using h3)
end

theorem told_tag {w : World} {e : TypeId} {v : Value} {n m : Nat} {xs : List Value} (h : w.ownsRow 0 e m v n xs) {k : Nat} (hk : v.ownBlock = some k) : ∃ cur, w.heap[k]? = some (.cells cur e (0, 0)) := by
  rcases h.2 with ⟨rfl, _⟩ | ⟨g, cap, cur, rfl, _, hg, _⟩
  · simp [Value.ownBlock] at hk
  · cases hk; exact ⟨cur, hg⟩
theorem tags_ne {w : World} {a b : Nat} {c1 c2 : Array Value} {t1 t2 : TypeId} {f1 f2 : Nat × Nat} (h1 : w.heap[a]? = some (.cells c1 t1 f1)) (h2 : w.heap[b]? = some (.cells c2 t2 f2)) (h : t1 ≠ t2) : a ≠ b := by
  intro e; subst e
  rw [h1] at h2
  cases h2
  exact h rfl

/-- A box with a slice of what is told, that owns its row. -/
def TBox (w : World) (bk : Nat) (v : Value) (ts : List ToldV) : Prop :=
  w.heap[bk]? = some (.cells #[v] 25 (0, 0)) ∧ w.ownsRow 0 31 4 v ts.length (tc ts)

theorem TBox.fr {w w' : World} {bk : Nat} {v : Value} {ts : List ToldV} {S : Nat → Prop} (h : TBox w bk v ts) (hf : Fr S w w') (hb : ¬ S bk) (ho : ∀ b, v.ownBlock = some b → ¬ S b) : TBox w' bk v ts := ⟨hf.heap h.1 hb, hf.owns h.2 ho⟩
theorem TBox.ne {w : World} {bk : Nat} {v : Value} {ts : List ToldV} (h : TBox w bk v ts) : ∀ b, v.ownBlock = some b → b ≠ bk := fun b hb => by
  obtain ⟨_, hc⟩ := told_tag h.2 hb; exact tags_ne hc h.1 (by decide)

/-- One more, put into the box. -/
theorem TBox.push {w w3 : World} {bk : Nat} {v v' : Value} {ts : List ToldV} {z : ToldV} {o : Obj} (h : TBox w bk v ts) (hown : w3.ownsRow 0 31 4 v' (ts.length + 1) (tc (ts ++ [z]))) (hgr : (w.alloc o).grownBy w3 v.ownBlock)
   (hblk : v'.ownBlock = v.ownBlock ∨ v'.ownBlock = some (w.heap.size + 1)) :
    w3.cell? ⟨bk, 0, none⟩ = some v ∧ w3.frozen? ⟨bk, 0, none⟩ = false ∧ TBox (w3.setCell ⟨bk, 0, none⟩ v') bk v' (ts ++ [z]) ∧ Fr (fun b => b = bk ∨ v.ownBlock = some b) w (w3.setCell ⟨bk, 0, none⟩ v') := by
  have hsz : (w.alloc o).heap.size = w.heap.size + 1 := by simp
  have hbl : bk < w.heap.size := lt_of_block h.1
  have hold : ∀ k, k < w.heap.size → v.ownBlock ≠ some k → w3.heap[k]? = w.heap[k]? := fun k hk hne => (hgr.block k (by omega) (fun e => hne e.symm)).trans (Below.heap_alloc w o k hk)
  have hb3 : w3.heap[bk]? = some (.cells #[v] 25 (0, 0)) := (hold bk hbl (fun e => h.ne bk e rfl)).trans h.1
  have hfr : Fr (fun b => b = bk ∨ v.ownBlock = some b) w w3 := ⟨hgr.os, hgr.tape, hgr.output, by have := hgr.size; omega, fun k hk hn => hold k hk (fun e => hn (.inr e))⟩
  refine ⟨cell_of_row _ _ 0 _ _ _ hb3, frozen_of_row w3 bk 0 _ _ hb3, ⟨(heap_setCell_same w3 bk 0 _ _ v' hb3).trans rfl, ?_⟩, hfr.setCell (p := ⟨bk, 0, none⟩) (fun _ => .inl rfl) v'⟩
  rw [List.length_append]
  refine ownsRow_setCell_other hown (fun e => ?_) _
  rcases hblk with h2 | h2
  · exact h.ne bk (h2.symm.trans e) rfl
  · rw [h2] at e
    have := Option.some.inj e
    have : bk = w.heap.size + 1 := this.symm
    omega

/-- A list of floats lies there. -/
def LieV (w : World) (g : Nat) (vs : List Nat) : Prop := ∀ i, (h : i < vs.length) → w.cell? ⟨g, 0 + i, none⟩ = some (.float .f64 vs[i])

def MapRel (ts : List ToldV) (bt : Nat) (w wr : World) (i : Value) : Prop :=
  ∃ (k : Nat) (ao : Option Addr) (cr : Nat), k ≤ ts.length ∧ i = .int .i64 (k : Int) ∧ TBox wr bt (.slice ao k cr) (ts.take k) ∧ (∀ b, (Value.slice ao k cr).ownBlock = some b → w.heap.size ≤ b) ∧ Fr (fun b => b = bt) w wr

/-- What the closure leaves. -/
def MapIn (pt pc pn px po : Nat) (ts : List ToldV) (ra mn mx : Nat) (w : World) (e : Ending) (w' : World) : Prop :=
  e = .returned (.tuple #[]) ∧ (∃ ao cr, TBox w' pt (.slice ao ts.length cr) ts) ∧ w'.heap[pc]? = some (.cells #[.float .f64 ra] 22 (0, 0)) ∧ w'.heap[pn]? = some (.cells #[.float .f64 mn] 22 (0, 0)) ∧ w'.heap[px]? = some (.cells #[.float .f64 mx] 22 (0, 0)) ∧
    w'.heap[po]? = some (.cells #[.bool true] 4 (0, 0)) ∧ Fr (fun k => k = pt ∨ k = pc ∨ k = pn ∨ k = px ∨ k = po) w w'

set_option maxRecDepth 100000 in
set_option maxHeartbeats 5000000 in
theorem mapIn_any {kind : Int} {of_ : Nat → Option (Nat × Nat × Nat × Nat × Nat)} {acc : Nat → Option Nat} {idx : Nat → Nat → Nat → Option Int} {lower : Nat → Nat → Int → Option Nat} {value : Nat → Nat → Nat → Int → Option Nat} (K : MapKind kind of_ acc idx lower value)
   (pk pa pl pt pc pn px po a g off mult mn mx ra gl cl : Nat) (vs : List Nat) (ts : List ToldV) (w : World)
   (hk : w.heap[pk]? = some (.cells #[.int .i64 kind] 3 (0, 0))) (ha : w.heap[pa]? = some (.cells #[.float .f64 a] 22 (0, 0))) (hl : w.heap[pl]? = some (.cells #[.slice (some ⟨gl, 0, none⟩) vs.length cl] 28 (0, 0)))
   (hv : LieV w gl vs) (hgl : gl < w.heap.size) (hgt : gl ≠ pt) (hn : vs.length < 1000)
   (ht : w.heap[pt]? = some (.cells #[.slice none 0 0] 25 (0, 0))) (hc : w.heap[pc]? = some (.cells #[.float .f64 0] 22 (0, 0))) (hnn : w.heap[pn]? = some (.cells #[.float .f64 0] 22 (0, 0))) (hx : w.heap[px]? = some (.cells #[.float .f64 0] 22 (0, 0)))
   (ho : w.heap[po]? = some (.cells #[.bool false] 4 (0, 0))) (ne1 : pc ≠ pn) (ne2 : pc ≠ px) (ne3 : pn ≠ px)
   (hmk : of_ a = some (g, off, mult, mn, mx)) (hacc : acc g = some ra) (hlen : ts.length = vs.length)
   (htold : ∀ k, (h : k < ts.length) → ∃ v, vs[k]? = some v ∧ idx off mult v = some ts[k].i ∧ value g off mult ts[k].i = some ts[k].v ∧ lower off mult ts[k].i = some ts[k].l ∧ lower off mult (ts[k].i + 1) = some ts[k].u ∧ -1000000 ≤ ts[k].i ∧ ts[k].i ≤ 1000000) :
    Calls Try.prog 12 #[.pointer (some ⟨pk, 0, none⟩), .pointer (some ⟨pa, 0, none⟩), .pointer (some ⟨pl, 0, none⟩), .pointer (some ⟨pt, 0, none⟩), .pointer (some ⟨pc, 0, none⟩), .pointer (some ⟨pn, 0, none⟩), .pointer (some ⟨px, 0, none⟩), .pointer (some ⟨po, 0, none⟩)] w
      fun e w' => MapIn pt pc pn px po ts ra mn mx w e w' := by
  have ck := cell_of_one hk
  have ca := cell_of_one ha
  have HM := K.made a g off mult mn mx w hmk
  have HL := Lib.hid hl
  have HV := Lib.hid hv
  have HGL := Lib.hid hgl
  have HT := Lib.hid ht
  have HC := Lib.hid hc
  have HN := Lib.hid hnn
  have HX := Lib.hid hx
  have HO := Lib.hid ho
  have HTOLD := Lib.hid htold
  clear hk ha hl hv hgl ht hc hnn hx ho htold hmk
  go_enter Try.func12, Try.ntmps12
  go_wp2_with fail
  refine HM.mono ?_
  clear HM
  rintro e w1 ⟨m, rfl, hm, hm5, hb⟩
  have cl1 : w1.cell? ⟨pl, 0, none⟩ = some (.slice (some ⟨gl, 0, none⟩) vs.length cl) := (hb.cell (lt_of_block HL.out)).trans (cell_of_one HL.out)
  have HM5 := Lib.hid hm5
  have HB := Lib.hid hb
  have HT1 : Hid (w1.heap[pt]? = some (.cells #[.slice none 0 0] 25 (0, 0))) := (HB.out.5 pt (lt_of_block HT.out)).trans HT.out
  have hptm : pt < w.heap.size := lt_of_block HT.out
  clear hm5 hb ck ca
  go_wp2
  clear cl1
  go_loopw [23] (fun i wr => MapRel ts pt w1 wr i) (fun i _ => ts.length - (intOf i).toNat)
  case atStart => exact ⟨0, none, 0, Nat.zero_le _, rfl, ⟨HT1.out, World.ownsRow_nil _ _ _ _⟩, (fun b hb => by simp [Value.ownBlock] at hb), Fr.refl _ _⟩
  case round =>
    obtain ⟨k, ao1, cr1, hk, rfl, hbx, hob, hfr⟩ := hrel
    by_cases hlt : k < ts.length
    · obtain ⟨v, h1, h2, h3, h4, h5, h6, h7⟩ := HTOLD.out k hlt
      obtain ⟨hkv, hvk⟩ := List.getElem?_eq_some_iff.1 h1
      have c0 := hfr.cell ((HB.out.cell HGL.out).trans (HV.out k hkv)) (show ¬ gl = pt from hgt)
      rw [hvk, Nat.zero_add] at c0
      have hltI : (k : Int) < ((vs.length : Nat) : Int) := by omega
      have i1 : IntKind.i64.wrap ((k : Int) + 1) = (k : Int) + 1 := by rw [IntKind.wrap_i64]; omega
      obtain ⟨i, hi⟩ : ∃ i, ts[k].i = i := ⟨_, rfl⟩
      have i2 : IntKind.i64.wrap (i + 1) = i + 1 := by rw [IntKind.wrap_i64]; omega
      have htk : ts.take (k + 1) = ts.take k ++ [ts[k]] := List.take_succ_eq_append_getElem hlt
      have hM5 : ∀ w', w'.heap = wr.heap → Map5 K.t w' m g off mult mn mx := fun w' hw' => by
        show w'.heap[m]? = _
        rw [hw']
        exact hfr.heap HM5.out (fun h => by have := lt_of_block HT.out; omega)
      have hVal : ∀ n, Calls Try.prog K.fVal #[.pointer (some ⟨m, 0, none⟩), .int .i64 i] (wr.drewN n) fun e w'' => Reads (.float .f64 ts[k].v) (wr.drewN n) e w'' := fun n => K.cVal m g off mult mn mx i _ (wr.drewN n) (hM5 _ rfl) (hi ▸ h3)
      have hLow : ∀ n, Calls Try.prog K.fLow #[.pointer (some ⟨m, 0, none⟩), .int .i64 i] (wr.drewN n) fun e w'' => Reads (.float .f64 ts[k].l) (wr.drewN n) e w'' := fun n => K.cLow m g off mult mn mx i _ (wr.drewN n) (hM5 _ rfl) (hi ▸ h4)
      have hUp : ∀ n, Calls Try.prog K.fLow #[.pointer (some ⟨m, 0, none⟩), .int .i64 (i + 1)] (wr.drewN n) fun e w'' => Reads (.float .f64 ts[k].u) (wr.drewN n) e w'' := fun n => K.cLow m g off mult mn mx (i + 1) _ (wr.drewN n) (hM5 _ rfl) (hi ▸ h5)
      have hIdx : ∀ w', w'.heap = wr.heap → Calls Try.prog K.fIdx #[.pointer (some ⟨m, 0, none⟩), .float .f64 v] w' fun e w'' => Reads (.int .i64 i) w' e w'' := fun w' hw' => K.cIdx m g off mult mn mx v i w' (hM5 w' hw') (hi ▸ h2)
      have hZ : ts[k] = ⟨i, ts[k].v, ts[k].l, ts[k].u⟩ := by rw [← hi]
      rw [hZ] at htk
      have hks : (ts.take k).length = k := by rw [List.length_take]; omega
      obtain ⟨zv, hzv⟩ : ∃ z, z = ts[k].v := ⟨_, rfl⟩
      obtain ⟨zl, hzl⟩ : ∃ z, z = ts[k].l := ⟨_, rfl⟩
      obtain ⟨zu, hzu⟩ : ∃ z, z = ts[k].u := ⟨_, rfl⟩
      rw [← hzv] at hVal htk
      rw [← hzl] at hLow htk
      rw [← hzu] at hUp htk
      obtain ⟨us, hus⟩ : ∃ us, us = ts.take k := ⟨_, rfl⟩
      rw [← hus] at hbx hks htk
      have ct := cell_of_row _ _ 0 _ _ _ hbx.1
      have ct9 : ∀ (n : Nat) (o : Obj), ((wr.drewN n).alloc o).cell? ⟨pt, 0, none⟩ = some (.slice ao1 k cr1) := fun n o => cell_of_row _ _ 0 _ _ _ ((Below.heap_alloc (wr.drewN n) o pt (lt_of_block (w := wr.drewN n) hbx.1)).trans hbx.1)
      have HTK := Lib.hid htk
      have HKS := Lib.hid hks
      have HBX := Lib.hid hbx
      have HOB := Lib.hid hob
      have HFR := Lib.hid hfr
      have mI := K.mIdx
      have mV := K.mVal
      have mL := K.mLow
      have eI := K.eIdx
      have eV := K.eVal
      have eL := K.eLow
      have hltw : pt < w1.heap.size := lt_of_block HT1.out
      clear htk hks hbx hob hfr h1 h2 h3 h4 h5 h6 h7 hi hZ hzv hzl hzu hkv hvk hM5 hus
      go_wp2_with (go_at_fn K.fIdx; (with_reducible refine (hIdx _ (by rfl)).mono ?_); rintro e wi ⟨rfl, ki, rfl⟩)
      go_region_law (first | (go_simp; go_at_fn K.fVal; (with_reducible refine (hVal _).mono ?_); rintro e wv ⟨rfl, kv, rfl⟩) | (go_simp; go_at_fn K.fLow; (with_reducible refine (hLow _).mono ?_); rintro e wl ⟨rfl, kl, rfl⟩) | (go_simp; go_at_fn K.fLow; (with_reducible refine (hUp _).mono ?_); rintro e wu ⟨rfl, ku, rfl⟩) | (rw [if_pos (by rfl)]; refine wp_append_told (wr.drewN (ki + 1 + kv + kl + ku)) wr.heap.size rfl i zv zl zu _ _ 25 31 rfl (.agg #[.int .i64 0, .float .f64 0, .float .f64 0, .float .f64 0]) 32 Try.underlying25 Try.infoTold rfl (.slice ao1 k cr1) k us rfl (by have h9 := HBX.out.2; rw [HKS.out] at h9; exact h9) rfl (by omega) (by decide) ?_; intro ao2 cp2 w3 hown3 hgrow hblk; have hbox : TBox (wr.drewN (ki + 1 + kv + kl + ku)) pt (.slice ao1 k cr1) us := ⟨HBX.out.1, HBX.out.2⟩; have hpush := hbox.push (z := ⟨i, zv, zl, zu⟩) (by rw [HKS.out]; exact hown3) hgrow hblk; have ck3 := hpush.1; have fk3 := hpush.2.1; have HPU := Lib.hid hpush.2.2; have HBL := Lib.hid hblk; clear hpush hbox hown3 hgrow hblk))
      all_goals
        go_wp2
        go_roundw
        case rel =>
          have hwz := HFR.out.size
          refine ⟨k + 1, ao2, cp2, by omega, by go_num, ?_, fun b hb => ?_, ?_⟩
          · rw [HTK.out]; exact HPU.out.1
          · rcases HBL.out with h | h
            · exact HOB.out b (by rw [← h]; exact hb)
            · have h2 : some b = some (wr.heap.size + 1) := by rw [← h]; exact hb.symm
              have h3 := Option.some.inj h2
              omega
          · refine (HFR.out.drewN _).trans HPU.out.2 (fun _ _ h => h) (fun i hi h => ?_)
            rcases h with h | h
            · exact h
            · have := HOB.out i h; omega
        case measure => simp [intOf]; omega
    · obtain rfl : k = ts.length := by omega
      have HBX := Lib.hid hbx
      have HOB := Lib.hid hob
      have HFR := Lib.hid hfr
      have hM5 : Map5 K.t wr m g off mult mn mx := hfr.heap HM5.out (fun h => by have := lt_of_block HT.out; omega)
      have hA := K.cAcc m g off mult mn mx ra wr hM5 hacc
      have hMn := K.cMin m g off mult mn mx wr hM5
      have hMx := K.cMax m g off mult mn mx wr hM5
      have mA := K.mAcc
      have mN := K.mMin
      have mX := K.mMax
      have eA := K.eAcc
      have eN := K.eMin
      have eX := K.eMax
      have c4 : wr.heap[pc]? = some (.cells #[.float .f64 0] 22 (0, 0)) := hfr.heap ((HB.out.5 pc (lt_of_block HC.out)).trans HC.out) (fun h => tags_ne HC.out HT.out (by decide) h)
      have c5 : wr.heap[pn]? = some (.cells #[.float .f64 0] 22 (0, 0)) := hfr.heap ((HB.out.5 pn (lt_of_block HN.out)).trans HN.out) (fun h => tags_ne HN.out HT.out (by decide) h)
      have c6 : wr.heap[px]? = some (.cells #[.float .f64 0] 22 (0, 0)) := hfr.heap ((HB.out.5 px (lt_of_block HX.out)).trans HX.out) (fun h => tags_ne HX.out HT.out (by decide) h)
      have c7 : wr.heap[po]? = some (.cells #[.bool false] 4 (0, 0)) := hfr.heap ((HB.out.5 po (lt_of_block HO.out)).trans HO.out) (fun h => tags_ne HO.out HT.out (by decide) h)
      have d4 := cell_of_one c4
      have g4 := free_of_one c4
      have d5 := cell_of_one c5
      have g5 := free_of_one c5
      have d6 := cell_of_one c6
      have g6 := free_of_one c6
      have d7 := cell_of_one c7
      have g7 := free_of_one c7
      have n4 := tags_ne HC.out HO.out (by decide)
      have n5 := tags_ne HN.out HO.out (by decide)
      have n6 := tags_ne HX.out HO.out (by decide)
      have p4 := tags_ne HC.out HT.out (show 22 ≠ 25 by decide)
      have p5 := tags_ne HN.out HT.out (show 22 ≠ 25 by decide)
      have p6 := tags_ne HX.out HT.out (show 22 ≠ 25 by decide)
      have p7 := tags_ne HO.out HT.out (show 4 ≠ 25 by decide)
      have n4' := Ne.symm n4
      have n5' := Ne.symm n5
      have n6' := Ne.symm n6
      have ne1' := Ne.symm ne1
      have ne2' := Ne.symm ne2
      have ne3' := Ne.symm ne3
      have HC4 := Lib.hid c4
      have HC5 := Lib.hid c5
      have HC6 := Lib.hid c6
      have HC7 := Lib.hid c7
      have HP := Lib.hid (And.intro p4 (And.intro p5 (And.intro p6 p7)))
      clear hlt hbx hob hfr hM5 c4 c5 c6 c7 p4 p5 p6 p7
      go_wp2_with (first | (go_at_fn K.fAcc; (with_reducible refine hA.mono ?_); rintro e wa ⟨rfl, rfl⟩) | (go_at_fn K.fMin; (with_reducible refine hMn.mono ?_); rintro e wb ⟨rfl, rfl⟩) | (go_at_fn K.fMax; (with_reducible refine hMx.mono ?_); rintro e wc ⟨rfl, rfl⟩))
      go_end0
      obtain ⟨p4, p5, p6, p7⟩ := HP.out
      have F := (((HFR.out.mono (U := fun k => k = pt ∨ k = pc ∨ k = pn ∨ k = px ∨ k = po) (fun _ _ h => Or.inl h)).setCell (p := ⟨pc, 0, none⟩) (fun _ => Or.inr (Or.inl rfl)) (.float .f64 ra)).setCell (p := ⟨pn, 0, none⟩) (fun _ => Or.inr (Or.inr (Or.inl rfl))) (.float .f64 mn)).setCell (p := ⟨px, 0, none⟩) (fun _ => Or.inr (Or.inr (Or.inr (Or.inl rfl)))) (.float .f64 mx)
      have F2 := F.setCell (p := ⟨po, 0, none⟩) (fun _ => Or.inr (Or.inr (Or.inr (Or.inr rfl)))) (.bool true)
      have F0 : Fr (fun k => k = pt ∨ k = pc ∨ k = pn ∨ k = px ∨ k = po) w w1 := (Fr.of_below HB.out).mono (fun i hi h => absurd hi (Nat.not_lt.2 h))
      have hpt : ∀ b, (Value.slice ao1 ts.length cr1).ownBlock = some b → b ≠ pc ∧ b ≠ pn ∧ b ≠ px ∧ b ≠ po := fun b hb => by
        obtain ⟨_, hc⟩ := told_tag HBX.out.2 hb
        exact ⟨tags_ne hc HC4.out (by decide), tags_ne hc HC5.out (by decide), tags_ne hc HC6.out (by decide), tags_ne hc HC7.out (by decide)⟩
      have hbx := HBX.out
      rw [List.take_length] at hbx
      refine ⟨rfl, ⟨ao1, cr1, ?_, ?_⟩, ?_, ?_, ?_, ?_, F0.trans F2 (fun _ _ h => h) (fun _ _ h => h)⟩
      · rw [heap_setCell_other _ _ _ _ (Ne.symm p7), heap_setCell_other _ _ _ _ (Ne.symm p6), heap_setCell_other _ _ _ _ (Ne.symm p5), heap_setCell_other _ _ _ _ (Ne.symm p4)]
        exact hbx.1
      · exact ownsRow_setCell_other (ownsRow_setCell_other (ownsRow_setCell_other (ownsRow_setCell_other hbx.2 (fun e => (hpt _ e).1 rfl) _) (fun e => (hpt _ e).2.1 rfl) _) (fun e => (hpt _ e).2.2.1 rfl) _) (fun e => (hpt _ e).2.2.2 rfl) _
      · rw [heap_setCell_other _ _ _ _ n4, heap_setCell_other _ _ _ _ ne2, heap_setCell_other _ _ _ _ ne1]
        exact one_setCell HC4.out
      · rw [heap_setCell_other _ _ _ _ n5, heap_setCell_other _ _ _ _ ne3]
        exact one_setCell ((heap_setCell_other _ _ _ _ (Ne.symm ne1)).trans HC5.out)
      · rw [heap_setCell_other _ _ _ _ n6]
        exact one_setCell ((heap_setCell_other _ _ _ _ (Ne.symm ne3)).trans ((heap_setCell_other _ _ _ _ (Ne.symm ne2)).trans HC6.out))
      · exact one_setCell ((heap_setCell_other _ _ _ _ (Ne.symm n6)).trans ((heap_setCell_other _ _ _ _ (Ne.symm n5)).trans ((heap_setCell_other _ _ _ _ (Ne.symm n4)).trans HC7.out)))
end Go.Proofs.Ytgommnmmifgbgaa
end
