/-
  EncodeUvarint64: the buffer grows by the number's bytes, seven bits at a time.
-/
import Derived.Test.YtnmbjalojgccmaaGreatProg
import Derived.Test.YtnmbjalojgccmaaGreatQA
import Derived.Deep.LoopGhost
import Derived.Deep.DeepMust
import Derived.Test.YtnmbjalojgccmaaGreatRB
section
namespace Go.Proofs.YtnmbjalojgccmaaGreat
open Go.RowKit

theorem Tryz.infoU8 : (Tryz.prog.info? 5).map (fun i => (i.zero, i.size, i.bytes)) = some (some (.int .u8 0), 1, 1) := by kernel_rfl

theorem Tryz.sizeU8 (w : World) : (sizeOf 5).run Tryz.prog w = .ok 1 w := by kernel_rfl

/-- The bytes of a number: at most k with seven bits, then one with what is left. -/
def encU : Nat → Nat → List Nat
  | 0, v => [v % 256]
  | k + 1, v => if v < 128 then [v] else (v % 128 + 128) :: encU k (v / 128)

theorem encU_len1 (k v : Nat) : 1 ≤ (encU k v).length ∧ (encU k v).length ≤ k + 1 := by
  induction k generalizing v with
  | zero => simp [encU]
  | succ k ih =>
    rw [encU]
    split
    · simp
    · have := ih (v / 128); simp; omega

theorem or128 (u : Nat) : bits .or .u8 ((u : Int) % 256) 128 = ((u % 128 + 128 : Nat) : Int) := by
  have h := u8_or_nat (u % 256) 128 (by omega) (by omega)
  have e : ((u % 256 : Nat) : Int) = (u : Int) % 256 := by omega
  rw [e] at h
  rw [show ((128 : Nat) : Int) = 128 from rfl] at h
  rw [h]
  have : u % 256 ||| 128 = u % 128 + 128 := by
    have hb : ∀ x : BitVec 8, x ||| 128#8 = (x &&& 127#8) + 128#8 := by decide
    have hx := congrArg BitVec.toNat (hb (BitVec.ofNat 8 u))
    simp only [BitVec.toNat_or, BitVec.toNat_add, BitVec.toNat_and, BitVec.toNat_ofNat] at hx
    rw [show (127 : Nat) % 2 ^ 8 = 127 from rfl, nat_mask7, show (2 : Nat) ^ 8 = 256 from rfl, show (128 : Nat) % 256 = 128 from rfl] at hx
    omega
  rw [this]

set_option maxRecDepth 100000 in
set_option maxHeartbeats 400000 in
theorem encU_any (p : Nat) (r : Option Nat) (v : Nat) (xs : List Nat) (w : World) (hv : v < 18446744073709551616)
   (hb : Buf 63 5 w p r xs) (hn : xs.length < 1000000000) :
    Calls Tryz.prog 59 #[.pointer (some ⟨p, 0, none⟩), .int .u64 v] w fun e w' => e = .returned (.tuple #[]) ∧ GrewTo 63 5 w w' p r (xs ++ encU 8 v) := by
  obtain ⟨i0, hi, hz0, hz1, hz2⟩ := info_parts Tryz.infoU8
  go_enter Tryz.func59, Tryz.ntmps59
  go_wp2
  go_loopw [1, 4] (fun u i wr => ∃ k u' : Nat, ∃ pre : List Nat, k ≤ 8 ∧ pre.length = k ∧ i = .int .i64 k ∧ u = .int .u64 u' ∧ u' < 18446744073709551616 ∧ encU 8 v = pre ++ encU (8 - k) u' ∧ GrewTo 63 5 w wr p r (xs ++ pre)) (fun _ i _ => 8 - (intOf i).toNat)
  case atStart => exact ⟨0, v, [], by omega, rfl, rfl, rfl, hv, rfl, by simpa using GrewTo.start hb⟩
  case round =>
    obtain ⟨k, u', pre, hk, hpl, rfl, rfl, hu, he, hgr⟩ := hrel
    obtain ⟨r', ⟨s, hcell, hown, hrr⟩, hfr, hr'⟩ := id hgr
    have hc := cell_of_one hcell
    have hf := free_of_one hcell
    clear hgr
    have HE := Lib.hid he; clear he
    have HC := Lib.hid hcell; clear hcell
    have HR := Lib.hid hrr; clear hrr
    have HF := Lib.hid hfr; clear hfr
    have HX := Lib.hid hr'; clear hr' hb
    have HU := Lib.hid hu; clear hu
    have hl : (xs ++ pre).length < 1000000010 := by simp; omega
    have HP := Lib.hid hpl; clear hpl
    by_cases h8 : k < 8
    · by_cases h128 : u' < 128
      · go_wp2_with (at_builtin; refine wpList_append_own2 _ rfl _ _ 63 rfl 5 i0 (.int .u8 0) 1 1 Tryz.underlying63 hi hz0 hz1 hz2 rfl (by decide) s (xs ++ pre).length (cu8 (xs ++ pre)) rfl (hown.alloc _) ⟨wr.heap.size, 0, none⟩ 1 1 [Value.int .u8 ((u' : Int))] rfl rfl ?c1 ?c2 ?c3 ?c4 ?_)
        case c1 => exact cell_one_new _ _ _
        case c2 => intro u hu; simp at hu; subst hu; rfl
        case c3 => unfold maxLen; omega
        case c4 => omega
        intro v' w1 hown' hgrow hblk
        have hown2 : w1.ownsRow 0 5 1 v' ((xs ++ pre).length + [u'].length) (cu8 (xs ++ pre) ++ cu8 [u']) := by
          simpa [cu8] using hown'
        have hc1 := buf_cell_behind (by decide) HC.out hown hgrow
        have g := grew_step (ys := [u']) (by decide) HC.out hown HR.out HF.out HX.out hown2 hgrow hblk
        obtain ⟨ao, n1, cp1, hv1⟩ := owns_slice hown'
        rw [hv1] at g
        rw [hv1]
        have HG := Lib.hid g
        clear hown' hown2 hgrow hblk g hv1
        have hcc := cell_of_one hc1
        have hff := free_of_one hc1
        clear hc1
        go_wp2
        go_end0
        refine ⟨rfl, ?_⟩
        have e : encU 8 v = pre ++ [u'] := by
          rw [HE.out]; congr 1
          obtain ⟨j, hj⟩ : ∃ j, 8 - k = j + 1 := ⟨7 - k, by omega⟩
          rw [hj, encU, if_pos h128]
        rw [e, ← List.append_assoc]
        exact HG.out
      · go_wp2_with (at_builtin; refine wpList_append_own2 _ rfl _ _ 63 rfl 5 i0 (.int .u8 0) 1 1 Tryz.underlying63 hi hz0 hz1 hz2 rfl (by decide) s (xs ++ pre).length (cu8 (xs ++ pre)) rfl (hown.alloc _) ⟨wr.heap.size, 0, none⟩ 1 1 [Value.int .u8 (bits .or .u8 ((u' : Int) % 256) 128)] rfl rfl ?c1 ?c2 ?c3 ?c4 ?_)
        case c1 => exact cell_one_new _ _ _
        case c2 => intro u hu; simp at hu; subst hu; rfl
        case c3 => unfold maxLen; omega
        case c4 => omega
        intro v' w1 hown' hgrow hblk
        have hown2 : w1.ownsRow 0 5 1 v' ((xs ++ pre).length + [u' % 128 + 128].length) (cu8 (xs ++ pre) ++ cu8 [u' % 128 + 128]) := by
          rw [or128] at hown'; simpa [cu8] using hown'
        have hc1 := buf_cell_behind (by decide) HC.out hown hgrow
        have g := grew_step (ys := [u' % 128 + 128]) (by decide) HC.out hown HR.out HF.out HX.out hown2 hgrow hblk
        obtain ⟨ao, n1, cp1, hv1⟩ := owns_slice hown'
        rw [hv1] at g
        rw [hv1]
        have HG := Lib.hid g
        clear hown' hown2 hgrow hblk g hv1
        have hcc := cell_of_one hc1
        have hff := free_of_one hc1
        clear hc1
        go_wp2
        go_roundw
        case rel =>
          refine ⟨k + 1, u' / 128, pre ++ [u' % 128 + 128], by omega, by have := HP.out; simp; omega, by go_num, ?_, by have := HU.out; omega, ?_, ?_⟩
          · go_num
          · rw [HE.out, List.append_assoc]; congr 1
            obtain ⟨j, hj⟩ : ∃ j, 8 - k = j + 1 := ⟨7 - k, by omega⟩
            rw [hj, encU, if_neg h128, show 8 - (k + 1) = j from by omega]; rfl
          · rw [← List.append_assoc]; exact HG.out
        case measure => simp [intOf]; omega
    · go_wp2_with (at_builtin; refine wpList_append_own2 _ rfl _ _ 63 rfl 5 i0 (.int .u8 0) 1 1 Tryz.underlying63 hi hz0 hz1 hz2 rfl (by decide) s (xs ++ pre).length (cu8 (xs ++ pre)) rfl (hown.alloc _) ⟨wr.heap.size, 0, none⟩ 1 1 [Value.int .u8 ((u' : Int) % 256)] rfl rfl ?c1 ?c2 ?c3 ?c4 ?_)
      case c1 => exact cell_one_new _ _ _
      case c2 => intro u hu; simp at hu; subst hu; rfl
      case c3 => unfold maxLen; omega
      case c4 => omega
      intro v' w1 hown' hgrow hblk
      have hown2 : w1.ownsRow 0 5 1 v' ((xs ++ pre).length + [u' % 256].length) (cu8 (xs ++ pre) ++ cu8 [u' % 256]) := by
        simpa [cu8] using hown'
      have hc1 := buf_cell_behind (by decide) HC.out hown hgrow
      have g := grew_step (ys := [u' % 256]) (by decide) HC.out hown HR.out HF.out HX.out hown2 hgrow hblk
      obtain ⟨ao, n1, cp1, hv1⟩ := owns_slice hown'
      rw [hv1] at g
      rw [hv1]
      have HG := Lib.hid g
      clear hown' hown2 hgrow hblk g hv1
      have hcc := cell_of_one hc1
      have hff := free_of_one hc1
      clear hc1
      go_wp2
      go_end0
      refine ⟨rfl, ?_⟩
      have e : encU 8 v = pre ++ [u' % 256] := by
        rw [HE.out]; congr 1
        rw [show 8 - k = 0 from by omega, encU]
      rw [e, ← List.append_assoc]
      exact HG.out
end Go.Proofs.YtnmbjalojgccmaaGreat
end
/-
  works: it is true.
-/
section
namespace Go.Proofs.YtnmbjalojgccmaaGreat
open Go.RowKit

set_option maxRecDepth 100000 in
theorem uvarint_closure (pn : Nat) (v : Nat) (p : Nat) (r : Option Nat) (w : World) (hv : v < 18446744073709551616) (hpn : w.cell? ⟨pn, 0, none⟩ = some (.int .u64 v)) (hb : Buf 63 5 w p r []) :
    Calls Tryz.prog 58 (#[.pointer (some ⟨p, 0, none⟩)] ++ #[.pointer (some ⟨pn, 0, none⟩)]) w fun e w' => e = .returned (.tuple #[]) ∧ GrewTo 63 5 w w' p r (encU 8 v) := by
  have H := encU_any p r v [] w hv hb (by simp)
  clear hb hv
  go_enter Tryz.func58, Tryz.ntmps58
  go_wp2_with fail
  refine H.mono ?_
  clear H
  rintro e w1 ⟨rfl, hg⟩
  have G := Lib.hid hg; clear hg
  go_wp2
  go_end0
  exact ⟨rfl, by simpa using G.out⟩

set_option maxRecDepth 100000 in
theorem implUvarint_any (v : Nat) (w : World) (hv : v < 18446744073709551616) :
    Calls Tryz.prog 29 #[.int .u64 v] w fun e w' => GivesBytes (encU 8 v) w e w' := by
  have hmf : ∀ (fn : Fn) (first cap : Array Value) (w : World), (Instr.makeFunc fn first cap).run Tryz.prog w = .ok (.func fn first cap) w := fun _ _ _ _ => rfl
  have H := coded_any 58 #[.pointer (some ⟨w.heap.size, 0, none⟩)] (encU 8 v) (w.alloc (.cells #[.int .u64 v] 65))
    (fun p w => run_enter Tryz.func58 (by kernel_rfl) rfl _ w)
    (fun w1 p r hb hbel _ => uvarint_closure w.heap.size v p r w1 hv ((hbel.cell (p := ⟨w.heap.size, 0, none⟩) (by simp)).trans (cell_of_one (heap_alloc_new w _))) hb)
  clear hv
  go_enter Tryz.func29, Tryz.ntmps29
  go_wp2_with fail
  refine H.mono ?_
  clear H
  rintro e w1 ⟨ao, n, c, rfl, ⟨hby, hbel⟩⟩
  have G : Hid (GivesBytes (encU 8 v) w (.returned (.slice ao n c)) w1) :=
    ⟨ao, n, c, rfl, ⟨⟨hby.1, fun k hk => by have := hby.2 k hk; simp at this; omega⟩, ((Below.refl _ w).alloc (Nat.le_refl _) _).trans (hbel.mono (by simp))⟩⟩
  clear hby hbel
  go_wp2
  go_ret
  exact G.out

/-- It hands back true; nothing that was there has turned. -/
def IsTrue (w : World) (e : Ending) (w' : World) : Prop := e = .returned (.bool true) ∧ Below w.heap.size w w'

set_option maxRecDepth 100000 in
theorem works_any (w : World) : Calls Tryz.prog 13 #[] w fun e w' => IsTrue w e w' := by
  have H := implUvarint_any 1 w (by decide)
  go_enter Tryz.func13, Tryz.ntmps13
  go_wp2_with fail
  refine H.mono ?_
  clear H
  rintro e w1 ⟨ao, n, c, rfl, ⟨⟨hown, _⟩, hbel⟩⟩
  have hst := run_string_of_owned (P := Tryz.prog) 63 5 9 Tryz.underlying63 Tryz.underlying5 Tryz.underlying9 hown
  have G := Lib.hid hbel
  clear hown hbel
  go_wp2
  go_ret
  exact ⟨by show Ending.returned (.bool ((str (encU 8 1)).toList == [1])) = _; rw [show ((str (encU 8 1)).toList == [1]) = true from by decide +kernel], G.out⟩
end Go.Proofs.YtnmbjalojgccmaaGreat
end
