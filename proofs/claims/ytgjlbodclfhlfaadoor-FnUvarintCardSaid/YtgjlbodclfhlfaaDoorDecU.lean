/-
  DecodeUvarint64: what it reads off a slice of bytes.
-/
import Derived.Test.YtgjlbodclfhlfaaDoorWorks
namespace Go.Proofs.YtgjlbodclfhlfaaDoor
open Go.RowKit

/-- A number read off bytes: i bytes have been read, they made acc. -/
def decU : Nat → Nat → List Nat → Option (Nat × List Nat)
  | _, _, [] => none
  | i, acc, n :: t => if n < 128 ∨ i = 8 then some (acc + n * 128 ^ i, t) else decU (i + 1) (acc + n % 128 * 128 ^ i) t

/-- The error at the end of the bytes. -/
def eofV : Value := .iface 63 (.string { data := #[69, 79, 70] })

/-- What a decoder leaves: R tells of what was read (nothing: the end of the bytes). -/
def DecPost (q : Nat → Prop) (w : World) (p : Nat) (zero : Value) (R : Option (Value × List Nat)) (e : Ending) (w' : World) : Prop :=
  match R with
  | none => e = .returned (.tuple #[zero, eofV]) ∧ w' = w
  | some (v, rest) => ∃ s, e = .returned (.tuple #[v, .nilIface]) ∧ w' = w.setCell ⟨p, 0, none⟩ s ∧ RowB q w' s rest

theorem pow128_le {k : Nat} (h : k ≤ 8) : 128 ^ k ≤ 72057594037927936 := Nat.le_trans (Nat.pow_le_pow_right (by decide) h) (by decide)
theorem pow128_eq (k : Nat) : (2 : Nat) ^ (7 * k) = 128 ^ k := by rw [Nat.pow_mul]

theorem orShift (k x n : Nat) (hk : k ≤ 8) (hx : x < 128 ^ k) (hn : n < 256) :
    bits BinOp.or IntKind.u64 (x : Int) (IntKind.u64.wrap ((n : Int) * 2 ^ (7 * k))) = ((x + n * 128 ^ k : Nat) : Int) := by
  have hp := pow128_le hk
  have h1 : n * 128 ^ k ≤ 255 * 72057594037927936 := Nat.mul_le_mul (by omega) hp
  have e1 : ((n : Int) * 2 ^ (7 * k)) = ((n * 128 ^ k : Nat) : Int) := by
    rw [← pow128_eq]; simp
  rw [e1, IntKind.wrap_u64, show ((n * 128 ^ k : Nat) : Int) % 18446744073709551616 = ((n * 128 ^ k : Nat) : Int) from by omega]
  rw [u64_or_nat _ _ (by omega) (by omega), Nat.or_comm, nat_join (7 * k) _ _ (by rw [pow128_eq]; exact Nat.mul_mod_left _ _) (by rw [pow128_eq]; exact hx), Nat.add_comm]

theorem and127 (n : Nat) (hn : n < 256) : IntKind.u64.wrap (bits BinOp.and IntKind.u8 (n : Int) 127) = ((n % 128 : Nat) : Int) := by
  have h := u8_and_nat n 127 hn (by omega)
  rw [show ((127 : Nat) : Int) = 127 from rfl] at h
  rw [h, nat_mask7, IntKind.wrap_u64]; omega

theorem acc_lt {k x m : Nat} (hx : x < 128 ^ k) (hm : m < 128) : x + m * 128 ^ k < 128 ^ (k + 1) := by
  rw [Nat.pow_succ]
  have : m * 128 ^ k ≤ 127 * 128 ^ k := Nat.mul_le_mul_right _ (by omega)
  omega

set_option maxRecDepth 100000 in
set_option maxHeartbeats 400000 in
theorem decU_row (q : Nat → Prop) (p g off cp : Nat) (xs : List Nat) (w : World) (hn : xs.length < 1000000000) (hcp : xs.length ≤ cp) (hcm : cp ≤ maxLen) (hb : ∀ x ∈ xs, x < 256) (hq : q g) (hgp : g ≠ p) (h0 : 0 < xs.length)
   (hc : w.cell? ⟨p, 0, none⟩ = some (.slice (some ⟨g, off, none⟩) xs.length cp)) (hf : w.frozen? ⟨p, 0, none⟩ = false) (hcell : ∀ i, (h : i < xs.length) → w.cell? ⟨g, off + i, none⟩ = some (.int .u8 (xs[i] : Int))) :
    Calls Tryd.prog 28 #[.pointer (some ⟨p, 0, none⟩)] w fun e w' => DecPost q w p (.int .u64 0) ((decU 0 0 xs).map fun r => (.int .u64 (r.1 : Int), r.2)) e w' := by
  go_enter Tryd.func28, Tryd.ntmps28
  go_wp2
  go_loop [4, 5, 6] (fun x s i => ∃ k x' s' : Nat, k ≤ 8 ∧ k ≤ xs.length ∧ i = .int .i64 k ∧ s = .int .u64 s' ∧ x = .int .u64 x' ∧ s' ≤ 56 ∧ Hid (s' = 7 * k ∧ x' < 128 ^ k ∧ decU 0 0 xs = decU k x' (xs.drop k))) (fun _ _ i => 9 - (intOf i).toNat)
  case atStart => exact ⟨0, 0, 0, by omega, by omega, rfl, rfl, rfl, by omega, rfl, by simp, rfl⟩
  case round =>
    obtain ⟨k, x', s', hk, hkl, rfl, rfl, rfl, hs, HK⟩ := hrel
    by_cases hlt : k < xs.length
    · have hck := hcell k hlt
      have hbk := hb xs[k] (List.getElem_mem hlt)
      have HD : Hid (xs.drop k = xs[k] :: xs.drop (k + 1)) := List.drop_eq_getElem_cons hlt
      have HC := Lib.hid hcell; clear hcell hb
      obtain ⟨n, hne⟩ : ∃ n, n = xs[k] := ⟨_, rfl⟩
      rw [← hne] at hck hbk HD
      have HN := Lib.hid hne; clear hne
      have hfin : n < 128 ∨ k = 8 → ∃ y : Nat, bits BinOp.or IntKind.u64 (x' : Int) (IntKind.u64.wrap ((n : Int) * 2 ^ s')) = (y : Int) ∧ Hid (decU 0 0 xs = some (y, xs.drop (k + 1))) := by
        intro h
        obtain ⟨e1, e2, e3⟩ := HK.out
        refine ⟨x' + n * 128 ^ k, by rw [e1]; exact orShift k x' n hk e2 hbk, ?_⟩
        show decU 0 0 xs = _
        rw [e3, HD.out, decU, if_pos h]
      have hstep : ¬ (n < 128 ∨ k = 8) → ∃ y : Nat, bits BinOp.or IntKind.u64 (x' : Int) (IntKind.u64.wrap (IntKind.u64.wrap (bits BinOp.and IntKind.u8 (n : Int) 127) * 2 ^ s')) = (y : Int) ∧ Hid (y < 128 ^ (k + 1) ∧ decU 0 0 xs = decU (k + 1) y (xs.drop (k + 1))) := by
        intro h
        obtain ⟨e1, e2, e3⟩ := HK.out
        refine ⟨x' + n % 128 * 128 ^ k, by rw [e1, and127 n hbk]; exact orShift k x' (n % 128) hk e2 (by omega), acc_lt e2 (by omega), ?_⟩
        rw [e3, HD.out, decU, if_neg h]
      have hrow : ∀ ao, (k + 1 = cp ∨ ao = some ⟨g, off + (k + 1), none⟩) → ∀ c', c' = cp - (k + 1) →
          RowB q (w.setCell ⟨p, 0, none⟩ (.slice ao (xs.length - (k + 1)) c')) (.slice ao (xs.length - (k + 1)) c') (xs.drop (k + 1)) := by
        intro ao h c' hc'
        refine ⟨ao, c', g, off + (k + 1), by rw [List.length_drop], by rw [List.length_drop]; omega, by omega, hq, ?_, ?_⟩
        · rcases h with h | h
          · left; apply List.drop_eq_nil_of_le; omega
          · exact .inr h
        · intro i hi
          rw [List.length_drop] at hi
          rw [World.cell?_setCell_other _ _ _ _ (by intro e; exact hgp (congrArg Addr.block e).symm)]
          have := HC.out (k + 1 + i) (by omega)
          rw [List.getElem_drop]
          rw [← Nat.add_assoc] at this
          exact this
      have HR := Lib.hid hrow; clear hrow
      by_cases h128 : n < 128
      · obtain ⟨y, hy, HY⟩ := hfin (.inl h128)
        clear hfin hstep
        go_wp2
        all_goals
          go_ret2
          show DecPost _ _ _ _ _ _ _
          rw [HY.out]
          first
            | exact ⟨_, rfl, rfl, HR.out _ (.inr rfl) _ (by omega)⟩
            | exact ⟨_, rfl, rfl, HR.out _ (.inl (by omega)) _ (by omega)⟩
      · by_cases h8 : k = 8
        · obtain ⟨y, hy, HY⟩ := hfin (.inr h8)
          clear hfin hstep
          have h8' : ((k : Int) == 8) = true := by simp; omega
          have H8 := Lib.hid h8; clear h8
          go_wp2
          all_goals
            go_ret2
            show DecPost _ _ _ _ _ _ _
            rw [HY.out]
            first
              | exact ⟨_, rfl, rfl, HR.out _ (.inr rfl) _ (by omega)⟩
              | exact ⟨_, rfl, rfl, HR.out _ (.inl (by omega)) _ (by omega)⟩
        · obtain ⟨y, hy, HY⟩ := hstep (by omega)
          clear hfin hstep
          have h8' : ((k : Int) == 8) = false := by simp; omega
          go_wp2
          go_round
          case rel =>
            have e1 := HK.out.1
            exact ⟨k + 1, y, s' + 7, by omega, by omega, by go_num, by go_num, rfl, by omega, by omega, HY.out.1, HY.out.2⟩
          case measure => simp [intOf]; omega
    · go_wp2
      go_ret2
      have hkk : k = xs.length := by omega
      show DecPost _ _ _ _ _ _ _
      rw [HK.out.2.2, hkk, List.drop_length]
      exact ⟨rfl, rfl⟩

set_option maxRecDepth 100000 in
theorem decU_any (q : Nat → Prop) (p : Nat) (s : Value) (xs : List Nat) (w : World) (hn : xs.length < 1000000000) (hb : ∀ x ∈ xs, x < 256) (hqp : ¬ q p)
   (hc : w.cell? ⟨p, 0, none⟩ = some s) (hf : w.frozen? ⟨p, 0, none⟩ = false) (hrow : RowB q w s xs) :
    Calls Tryd.prog 28 #[.pointer (some ⟨p, 0, none⟩)] w fun e w' => DecPost q w p (.int .u64 0) ((decU 0 0 xs).map fun r => (.int .u64 (r.1 : Int), r.2)) e w' := by
  obtain ⟨ao, cp, g, off, rfl, h1, h2, h3, h4, h5⟩ := hrow
  by_cases h0 : 0 < xs.length
  · rcases h4 with h4 | rfl
    · subst h4; simp at h0
    · exact decU_row q p g off cp xs w hn h1 h2 hb h3 (fun e => hqp (e ▸ h3)) h0 hc hf h5
  · have hx : xs = [] := List.eq_nil_of_length_eq_zero (by omega)
    subst hx
    clear h5 h4 h1 hn hb h0
    simp only [List.length_nil] at hc
    go_enter Tryd.func28, Tryd.ntmps28
    go_wp2
    refine wp_loop_rounds 1 ?_
    rw [rounds_succ]
    go_wp2
    go_ret2
    exact ⟨rfl, rfl⟩
end Go.Proofs.YtgjlbodclfhlfaaDoor
