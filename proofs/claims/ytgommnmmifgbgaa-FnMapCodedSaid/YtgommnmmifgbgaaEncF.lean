/-
  EncodeFloat64LE appends the eight bytes of a float.
-/
import Derived.Test.YtgommnmmifgbgaaPutLe
import Derived.Test.YtgommnmmifgbgaaEncFlag
import Derived.Test.YtgommnmmifgbgaaTwin
import Derived.Deep.RegionHeld3
namespace Go.Proofs.Ytgommnmmifgbgaa
open Go.RowKit

section
variable {P : Program}
theorem wpList_append_zeros (w : World) {ops : Array Oper} {rest : List Oper} {o : Oper} {a : Act} {Q : Exit → Act → World → Prop} (hgd : o.guard = none) (s x : Operand) (tS tI tE : TypeId)
    (ho : o.op = .call { callee := .builtin .append, args := #[s, x], argTypes := #[tS, tI] }) (ht : P.underlying tS = some (.slice tE)) (hI : P.underlying tI = some (.int .i64))
    (hinfo : (P.info? tE).map (fun i => (i.zero, i.size, i.bytes)) = some (some (.int .u8 0), 1, 1))
    (v : Value) (xs : List Nat) (n : Nat) (hs : a.eval s = v) (hx : a.eval x = .int .i64 n) (hown : w.ownsRow 0 tE 1 v xs.length (cu8 xs)) (hn0 : 0 < n) (hn : n < 1000000) (hsl : xs.length < 1000000000000)
    (h : ∀ v' w', w'.ownsRow 0 tE 1 v' (xs ++ List.replicate n 0).length (cu8 (xs ++ List.replicate n 0)) → w.grownBy w' v.ownBlock → (v'.ownBlock = v.ownBlock ∨ v'.ownBlock = some w.heap.size) → wpList P ops Q rest (a.put o.dst v') w') : wpList P ops Q (o :: rest) a w := by
  obtain ⟨i0, hi, hz0, hz1, hz2⟩ := info_parts hinfo
  obtain ⟨v', w', hr, h2, h3, h4⟩ := run_append_zeros (P := P) w tS tI o.type tE i0 ht hI hi hz0 hz1 hz2 v xs n hown hn0 hn hsl
  refine wpList_plain hgd fun K hK => ?_
  unfold Oper.wp execOp
  simp only [ho, resolve, invoke, builtin, Sem.run_bind, Sem.run_pure, Result.andThen_ok, List.map_toArray, List.map_cons, List.map_nil, hs, hx, hr]
  exact hK _ _ (h v' w' h2 h3 h4)
end

/-- s[l:], l below the capacity. -/
theorem run_slice_from {P : Program} (t e : TypeId) (ht : P.underlying t = some (.slice e)) (g n c m : Nat) (h : Int) (h0 : h = (m : Int)) (h1 : m ≤ n) (_h2 : n ≤ c) (h3 : m < c) (hz : ∀ w, (sizeOf e).run P w = .ok 1 w) (w : World) :
    (Instr.slice t (.slice (some ⟨g, 0, none⟩) n c) (some (.int .i64 h)) none none).run P w = .ok (.slice (some ⟨g, m, none⟩) (n - m) (c - m)) w := by
  subst h0
  have hh : (m : Int) ≤ (n : Int) := by omega
  have hne : ¬ c = m := by omega
  have hadd : (⟨g, 0, none⟩ : Addr).add m = ⟨g, m, none⟩ := by unfold Addr.add; split <;> simp_all
  simp [Instr.slice, run_underlying ht, Instr.sliceBounds, go_sem, hh, hz, hne]

set_option maxRecDepth 100000 in
set_option maxHeartbeats 800000 in
theorem encF_any (p : Nat) (r : Option Nat) (b : Nat) (xs : List Nat) (w : World)
   (hb : Buf 36 5 w p r xs) (hn : xs.length < 1000000000) :
    Calls Try.prog 100 #[.pointer (some ⟨p, 0, none⟩), .float .f64 b] w fun e w' => e = .returned (.tuple #[]) ∧ GrewTo 36 5 w w' p r (xs ++ leB b 8) := by
  obtain ⟨s, hcell, hown, hrr⟩ := id hb
  have hpl := lt_of_block hcell
  have hc := cell_of_one hcell
  have hf := free_of_one hcell
  have HC := Lib.hid hcell
  have HR := Lib.hid hrr
  clear hb hcell hrr
  go_enter Try.func100, Try.ntmps100
  go_wp2_with (at_builtin; go_loud (refine wpList_append_zeros w rfl _ _ 36 3 5 rfl Try.underlying36 Try.underlying3 Try.infoU8 s xs 8 rfl rfl hown (by decide) (by decide) (by omega) ?_; intro v' w1 hown' hgrow hblk; obtain ⟨ao1, n1, cp1, rfl⟩ := owns_slice hown'; have hc1 : w1.heap[p]? = some (.cells #[s] 36 (0, 0)) := (hgrow.block p hpl (fun e => buf_apart (by decide) HC.out hown e.symm)).trans HC.out; have hcc := cell_of_one hc1; have hff := free_of_one hc1))
  have hzl : (xs ++ List.replicate 8 0).length = xs.length + 8 := by simp
  have hnp : (Value.slice ao1 n1 cp1).ownBlock ≠ some p := by
    rcases hblk with h | h
    · rw [h]; exact buf_apart (by decide) HC.out hown
    · rw [h]; intro e; cases e; omega
  obtain ⟨g, rfl, rfl, hcap, hcm, -⟩ := owns_some hown' (by rw [hzl]; omega)
  rw [hzl] at hown' hcap
  have hgp : g ≠ p := fun e => hnp (by rw [e]; rfl)
  have hownW := ownsRow_setCell_other hown' (a := ⟨p, 0, none⟩) hnp (.slice (some ⟨g, 0, none⟩) (xs.length + 8) cp1)
  have hcW := one_setCell (u := .slice (some ⟨g, 0, none⟩) (xs.length + 8) cp1) hc1
  have hFW : Fr (fun k => k = p ∨ r = some k) w (w1.setCell ⟨p, 0, none⟩ (.slice (some ⟨g, 0, none⟩) (xs.length + 8) cp1)) :=
    ((Fr.refl _ w).grown hgrow (fun k hk _ => .inr (by rw [← HR.out]; exact hk))).setCell (fun _ => .inl rfl) _
  have hgr : r = some g ∨ w.heap.size ≤ g := by
    rcases hblk with h | h
    · exact .inl (by rw [← HR.out, ← h]; rfl)
    · right; cases h; exact Nat.le_refl _
  rw [hzl]
  revert hownW hcW hFW
  generalize w1.setCell ⟨p, 0, none⟩ (.slice (some ⟨g, 0, none⟩) (xs.length + 8) cp1) = W
  intro hownW hcW hFW
  have hsl := run_slice_from (P := Try.prog) 36 5 Try.underlying36 g (xs.length + 8) cp1 xs.length (xs.length : Int) rfl (by omega) hcap (by omega) Try.sizeU8
  rw [show xs.length + 8 - xs.length = 8 from by omega] at hsl
  have hp1 := cell_of_one hcW
  have hP := putLe_any b g cp1 (cp1 - xs.length) xs
  have hlow : (((xs.length + 8 : Nat) : Int) - 8) = (xs.length : Int) := by omega
  have hw1 : wrap64 (((xs.length + 8 : Nat) : Int) - 8) = (xs.length : Int) := by unfold wrap64; omega
  have hw2 : wrap64 (xs.length : Int) = (xs.length : Int) := by unfold wrap64; omega
  have hL8 : (0 : Int) ≤ ((xs.length + 8 : Nat) : Int) - 8 := by omega
  have hI1 : IntKind.i64.wrap (((xs.length + 8 : Nat) : Int) - 8) = (xs.length : Int) := by rw [IntKind.wrap_i64]; omega
  have hI2 : IntKind.i64.wrap (xs.length : Int) = (xs.length : Int) := by rw [IntKind.wrap_i64]; omega
  revert hsl hlow hw1 hw2 hL8 hI1 hI2
  obtain ⟨L, hL⟩ : ∃ L, L = xs.length + 8 := ⟨_, rfl⟩
  have HLL := Lib.hid hL
  rw [← hL] at hp1 hownW hcW hP hcap ⊢
  clear hL
  obtain ⟨m, hm⟩ : ∃ m, m = xs.length := ⟨_, rfl⟩
  have HM := Lib.hid hm
  rw [← hm] at hP
  rw [← hm]
  clear hm
  intro hsl hlow hw1 hw2 hL8 hI1 hI2
  clear hlow hw1 hw2 hL8
  have hpd : W.drew.cell? ⟨p, 0, none⟩ = some (.slice (some ⟨g, 0, none⟩) L cp1) := hp1
  have hPd := hP W.drew hownW
  have HWF := Lib.hid hFW
  have HWC := Lib.hid hcW
  clear hownW hFW hcW hP hown hown' hgrow hblk hnp hc1 hcc hff hc hf
  go_region_held3 (fun w' => w'.cell? ⟨p, 0, none⟩ = some (.slice (some ⟨g, 0, none⟩) L cp1))
    (first | (with_reducible exact hp1) | (with_reducible exact hpd) | (with_reducible exact hk4))
    (first | (go_at_call 66; (with_reducible refine (twinBits_any b _).mono ?_); rintro e w' ⟨rfl, rfl⟩) | (go_at_call 102; (with_reducible refine hPd.mono ?_); rintro e w4 ⟨rfl, ho4, hf4⟩; have hk4 := hf4.cell hpd (fun e => hgp e.symm)) | fail)
  go_wp2
  go_end0
  have hL := HLL.out
  have hlen : (xs ++ leB b 8).length = L := by rw [List.length_append, leB_len]; omega
  refine ⟨rfl, some g, ⟨_, hf4.heap (by exact HWC.out) (fun e => hgp e.symm), by rw [hlen]; exact ho4, rfl⟩, ?_, ?_⟩
  · exact HWF.out.trans (⟨hf4.os, hf4.tape, hf4.output, hf4.size, hf4.block⟩ : Fr (fun k => k = g) W w4) (fun _ _ h => h) (by
      intro i hi h
      rcases hgr with hg | hg
      · exact .inr (by rw [hg, h])
      · omega)
  · rcases hgr with hg | hg
    · exact .inl hg.symm
    · exact .inr ⟨g, rfl, hg⟩
end Go.Proofs.Ytgommnmmifgbgaa
